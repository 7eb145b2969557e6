/-
  THE WALK of 'sameStart': if it says yes, the two slices begin in one block.
-/
import Derived.Test.Qxb6618271aRows
import Derived.WalkKit
import Derived.WalkLawsBesides
import Derived.Deep.QuietTactic
import Derived.BigQuiet
import Derived.Deep.OwnRows
import Derived.LaidEqlPtr
namespace Go.Proofs.Qxb6618271a
open Go.RowKit

theorem Try.size33 : (Try.prog.info? 33).map (·.size) = some 2 := by kernel_rfl

/-- '&s.words[0] == &t.words[0]' between two rows: by the block. -/
theorem eql_words {W : World} {b b' n n' : Nat} {f f' : Nat → Value} (hS : W.rowIs b 33 n f) (hT : W.rowIs b' 33 n' f') :
    (binOp .eql 36 (.pointer (some ⟨b, 0, none⟩)) (.pointer (some ⟨b', 0, none⟩))).run Try.prog W = .ok (.bool (decide (b = b'))) W := by
  obtain ⟨j, hj, hjs⟩ := Option.map_eq_some_iff.1 Try.size33
  obtain ⟨c, hc, _⟩ := hS
  obtain ⟨c', hc', _⟩ := hT
  by_cases h : b = b'
  · subst h
    simpa using run_eql_ptr_same (P := Try.prog) W ⟨b, 0, none⟩ Try.underlying36 hj
  · have hne : (⟨b, 0, none⟩ : Addr) ≠ ⟨b', 0, none⟩ := by intro e; exact h (by injection e)
    simpa [h] using run_eql_ptr_other (P := Try.prog) W Try.underlying36 hj (by rw [hjs]; decide) hne hc hc'

theorem rowIs_drewN {w : World} {b t n : Nat} {f : Nat → Value} (h : w.rowIs b t n f) (k : Nat) : (w.drewN k).rowIs b t n f := by
  induction k with
  | zero => exact h
  | succ k ih => exact ih

set_option maxHeartbeats 400000 in
theorem start_any (b ls cs b' lt ct n n' : Nat) (f f' : Nat → Value) (w : World) (hS : w.rowIs b 33 n f) (hT : w.rowIs b' 33 n' f') :
    Calls Try.prog 12 #[.agg #[.slice (some ⟨b, 0, none⟩) ls cs], .agg #[.slice (some ⟨b', 0, none⟩) lt ct]] w fun e w' => ∃ r : Bool, e = .returned (.bool r) ∧ (r = true → b = b') ∧ Below w.heap.size w w' := by
  have q : ∀ o o' k, (binOp .eql 36 (.pointer (some ⟨b, 0, none⟩)) (.pointer (some ⟨b', 0, none⟩))).run Try.prog (((w.alloc o).alloc o').drewN k) = .ok (.bool (decide (b = b'))) (((w.alloc o).alloc o').drewN k) :=
    fun o o' k => eql_words (rowIs_drewN ((hS.alloc o).alloc o') k) (rowIs_drewN ((hT.alloc o).alloc o') k)
  clear hS hT
  rcases Nat.eq_zero_or_pos ls with hs | hs
  · subst hs
    go_enter Try.func12, Try.ntmps12
    go_wp2
    go_quiet (fail)
    go_wp2
    go_ret
    refine ⟨false, rfl, by simp, ?_⟩
    exact below_drewN (((Below.refl _ _).alloc (Nat.le_refl _) _).alloc (by simp) _) _
  rcases Nat.eq_zero_or_pos lt with ht | ht
  · subst ht
    go_enter Try.func12, Try.ntmps12
    go_wp2
    go_quiet (fail)
    go_wp2
    go_ret
    refine ⟨false, rfl, by simp, ?_⟩
    exact below_drewN (((Below.refl _ _).alloc (Nat.le_refl _) _).alloc (by simp) _) _
  go_enter Try.func12, Try.ntmps12
  go_wp2
  go_quiet (fail)
  go_wp2
  go_ret
  exact ⟨_, rfl, fun h => by simpa using h, below_drewN (((Below.refl _ _).alloc (Nat.le_refl _) _).alloc (by simp) _) _⟩

end Go.Proofs.Qxb6618271a
