/-
  THE WALK of 'ZZCPUSet': a new row of words.
-/
import Derived.Test.Qxb6618271aWithin
import Derived.Test.Qxb6618271aForm
import Derived.BigRegion
namespace Go.Proofs.Qxb6618271a
open Go.RowKit

theorem Try.info33 : (Try.prog.info? 33).map (fun i => (i.zero, i.size, i.bytes)) = some (some (.agg #[.int .i64 0, .int .u64 0]), 2, 16) := by kernel_rfl

theorem make_words (n : Nat) (hn : n ≤ 65536) (w : World) :
    (Instr.makeSlice 26 (.int .i64 (n : Int)) (.int .i64 (n : Int))).run Try.prog w = .ok (.slice (some ⟨w.heap.size, 0, none⟩) n n) (w.alloc (.cells (madeCells #[.int .i64 0, .int .u64 0] (n * 2)) 33)) := by
  obtain ⟨i, hi, hzz⟩ := Option.map_eq_some_iff.1 Try.info33
  simp only [Prod.mk.injEq] at hzz
  obtain ⟨hz, hs, hb⟩ := hzz
  have hr := run_make (P := Try.prog) w 26 33 i _ Try.underlying26 hi hz .i64 .i64 n n (by omega) (Int.le_refl _) (by rw [hb]; omega) (by omega)
  simp only [Int.toNat_natCast, hs] at hr
  exact hr

/-- The row of words, k of them laid. -/
def laidTo (A B : List Int) (k i : Nat) : Value := if i < k * 2 then wcell A B i else wcell [] [] i

theorem made_words (w : World) (n : Nat) (A B : List Int) : (w.alloc (.cells (madeCells #[.int .i64 0, .int .u64 0] (n * 2)) 33)).rowIs w.heap.size 33 (n * 2) (laidTo A B 0) := by
  refine ⟨_, Deep.blk_alloc_new _ _, size_madeCells _ _, fun i hi => ?_⟩
  unfold laidTo wcell
  have : i % 2 = 0 ∨ i % 2 = 1 := by omega
  rcases this with h | h <;> simp [madeCells, hi, h]

theorem laid_step (A B : List Int) (k : Nat) (j : Nat) : (if j = k * 2 + 1 then Value.int .u64 (B[k]?.getD 0) else if j = k * 2 then Value.int .i64 (A[k]?.getD 0) else laidTo A B k j) = laidTo A B (k + 1) j := by
  unfold laidTo
  by_cases h1 : j = k * 2 + 1
  · subst h1; rw [if_pos rfl, if_pos (by omega), wcell_odd]
  · by_cases h2 : j = k * 2
    · subst h2; rw [if_neg (by omega), if_pos rfl, if_pos (by omega), wcell_even]
    · rw [if_neg h1, if_neg h2]
      by_cases h3 : j < k * 2
      · rw [if_pos h3, if_pos (by omega)]
      · rw [if_neg h3, if_neg (by omega)]

set_option maxHeartbeats 1000000 in
theorem build_any (a0 a1 : Option Addr) (n c0 c1 : Nat) (A B : List Int) (w : World) (hn : n ≤ 65536) (hA : Ints .i64 w a0 n A) (hB : Ints .u64 w a1 n B) :
    Calls Try.prog 7 #[.slice a0 n c0, .slice a1 n c1] w fun e w' => ∃ g, e = .returned (.agg #[.slice (some ⟨g, 0, none⟩) n n]) ∧ w.heap.size ≤ g ∧ w'.rowIs g 33 (n * 2) (wcell A B) ∧ Below w.heap.size w w' := by
  have hmk := make_words n hn
  have m0 : ∀ o, ((w.alloc (.cells #[.slice none 0 0] 28)).alloc o).rowIs w.heap.size 28 1 (fun _ => .slice none 0 0) := fun o =>
    (World.rowIs_alloc w #[.slice none 0 0] 28 (fun _ => .slice none 0 0) (fun i hi => by simp at hi; subst hi; rfl)).alloc o
  have m1 : ∀ o, ((w.alloc o).alloc (.cells (madeCells #[.int .i64 0, .int .u64 0] (n * 2)) 33)).rowIs (w.heap.size + 1) 33 (n * 2) (laidTo A B 0) := fun o => by
    have h := made_words (w.alloc o) n A B
    simpa using h
  have m2 : ∀ o o', Below w.heap.size w ((w.alloc o).alloc o') := fun o o' => ((Below.refl _ _).alloc (Nat.le_refl _) _).alloc (by simp) _
  go_enter Try.func7, Try.ntmps7
  go_wp2
  go_loopw [7] (fun vi wr => ∃ k : Nat, k ≤ n ∧ vi = .int .i64 k ∧ wr.rowIs w.heap.size 28 1 (fun _ => .slice none 0 0) ∧ wr.rowIs (w.heap.size + 1) 33 (n * 2) (laidTo A B k) ∧ Below w.heap.size w wr) (fun vi _ => n - (intOf vi).toNat)
  case atStart => exact ⟨0, by omega, rfl, m0 _, m1 _, m2 _ _⟩
  case round =>
    clear m0 m1 m2 hmk
    obtain ⟨k, hk, rfl, r0, r1, hbr⟩ := hrel
    by_cases hkn : k < n
    · obtain ⟨b0, o0, rfl, hlt0, hcA⟩ := (hA.below hbr).2 k hkn
      obtain ⟨b1, o1, rfl, hlt1, hcB⟩ := (hB.below hbr).2 k hkn
      have fA := hcA k hkn
      have fB := hcB k hkn
      have t1 := r1.cell (show k * 2 < n * 2 by omega)
      have t2 := r1.cell (show k * 2 + 1 < n * 2 by omega)
      have z1 := r1.frozen (k * 2)
      have z2 := r1.frozen (k * 2 + 1)
      clear hcA hcB
      go_wp2
      go_region
      go_wp2
      go_roundw
      case rel =>
        refine ⟨k + 1, by omega, by go_num, ((r0.setOther (by show w.heap.size ≠ w.heap.size + 1; omega) _).setOther (by show w.heap.size ≠ w.heap.size + 1; omega) _).drew, ?_, ((hbr.setCell (by show w.heap.size ≤ w.heap.size + 1; omega) _).setCell (by show w.heap.size ≤ w.heap.size + 1; omega) _).drew⟩
        exact ((r1.set (k * 2) _).set (k * 2 + 1) _).drew.congr fun j _ => laid_step A B k j
      case measure => simp [intOf]; omega
    · have t0 := r0.cell (show 0 < 1 by omega)
      have z0 := r0.frozen 0
      have q0 : ∀ v, (wr.setCell ⟨w.heap.size, 0, none⟩ v).cell? ⟨w.heap.size, 0, none⟩ = some v := fun v => by simpa using (r0.set 0 v).cell (show 0 < 1 by omega)
      go_wp2
      refine bodyPost_ret (v := .agg #[.slice (some ⟨w.heap.size + 1, 0, none⟩) n n]) (by simp [results, Try.results7, go_sem, q0]) rfl ⟨w.heap.size + 1, rfl, by omega, ?_, ?_⟩
      · refine (r1.setOther (by show w.heap.size + 1 ≠ w.heap.size; omega) _).congr fun i hi => ?_
        unfold laidTo
        rw [if_pos (by omega)]
      · exact hbr.setCell (Nat.le_refl _) _

end Go.Proofs.Qxb6618271a
