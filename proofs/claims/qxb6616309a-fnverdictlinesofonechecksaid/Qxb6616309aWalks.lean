/-
  THE WALKS of the callees: each of the verdict's functions by its contract.
-/
import Derived.Test.Qxb6616309aRows
import Derived.Test.Qxb6616309aPlain
import Derived.WalkKit
import Derived.ProofKit
import Derived.WalkLawsBesides
import Derived.Laws.EntriesVeiled
namespace Go.Proofs.Qxb6616309a
open Go.RowKit

set_option maxHeartbeats 400000 in
theorem bytes_any (a b c : ByteArray) (w : World) : Calls Try.prog 4 #[.string a, .string b, .string c] w fun e w' => ∃ r : Bool, e = .returned (.bool r) ∧ w = w' := by
  go_enter Try.func4, Try.ntmps4
  go_wp2
  all_goals
    go_ret
    exact ⟨_, rfl, rfl⟩

theorem verdict_any (nm f : ByteArray) (w : World) : Calls Try.prog 5 #[.string nm, .string f] w fun e w' => e = .returned (.agg #[.string nm, .nilFunc, .string f]) ∧ w' = w.alloc (.cells #[.string nm, .nilFunc, .string f] 28) := by
  go_enter Try.func5, Try.ntmps5
  go_wp2
  exact bodyPost_ret (v := .agg #[.string nm, .nilFunc, .string f]) (by simp [results, Try.results5, go_sem]) rfl ⟨rfl, rfl⟩

theorem name_any (nm : ByteArray) (w : World) : Calls Try.prog 6 #[.agg #[.string nm, .nilFunc]] w fun e w' => e = .returned (.string nm) ∧ w' = w.alloc (.cells #[.string nm, .nilFunc] 26) := by
  go_enter Try.func6, Try.ntmps6
  go_wp2
  go_ret
  exact ⟨rfl, rfl⟩

theorem held_any (nm f : ByteArray) (w : World) : Calls Try.prog 9 #[.agg #[.string nm, .nilFunc, .string f]] w fun e w' => e = .returned (.bool f.toList.isEmpty) ∧ w' = w.alloc (.cells #[.string nm, .nilFunc, .string f] 28) := by
  go_enter Try.func9, Try.ntmps9
  go_wp2
  go_ret
  exact ⟨rfl, rfl⟩

set_option maxHeartbeats 400000 in
theorem string_any (nm f : ByteArray) (w : World) (h : nm.size ≤ 1048576) (h1 : f.size ≤ 1048576) : Calls Try.prog 7 #[.agg #[.string nm, .nilFunc, .string f]] w fun e w' => e = .returned (.string (vline nm f)) ∧ w' = (w.alloc (.cells #[.string nm, .nilFunc, .string f] 28)).alloc (.cells #[.string nm, .nilFunc, .string f] 28) := by
  by_cases hf : f.toList.isEmpty = true
  · have hv : Hid (vline nm f = nm ++ okTail) := by unfold vline; rw [if_pos hf]; rfl
    go_enter Try.func7, Try.ntmps7
    go_wp2
    go_ret
    rw [hv.out]
    exact ⟨rfl, rfl⟩
  · have hf' : f.toList.isEmpty = false := by simpa using hf
    have hv : Hid (vline nm f = nm ++ failTail ++ f) := by unfold vline; rw [if_neg hf]; rfl
    clear hf
    go_enter Try.func7, Try.ntmps7
    go_wp2
    go_ret
    rw [hv.out]
    exact ⟨rfl, rfl⟩

set_option maxHeartbeats 400000 in
theorem prefix_any (s pre : ByteArray) (w : World) (_hm : s.size ≤ 4194304) (h : pre.size ≤ s.size) (hx : s.extract 0 pre.size = pre) : Calls Try.prog 8 #[.string s, .string pre] w fun e w' => e = .returned (.bool true) ∧ w' = w := by
  have HX : Hid (s.extract 0 pre.size = pre) := hx
  clear hx
  go_enter Try.func8, Try.ntmps8
  go_wp2
  go_ret
  refine ⟨?_, rfl⟩
  show Ending.returned (Value.bool ((s.extract 0 pre.size).toList == pre.toList)) = _
  rw [HX.out]
  simp

end Go.Proofs.Qxb6616309a
