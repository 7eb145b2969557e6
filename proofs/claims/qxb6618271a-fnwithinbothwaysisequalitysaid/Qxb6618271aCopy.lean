/-
  'zzc := make(..); copy(zzc, xs)': the copy reads as the numbers; the two guards on total length.
-/
import Derived.Test.Qxb6618271aBuild
import Derived.Laws.CopyOwn
import Derived.Deep.WholeRow
namespace Go.Proofs.Qxb6618271a
open Go.RowKit

set_option maxHeartbeats 400000 in
theorem bytes5 (a0 a1 a2 a3 : Option Addr) (n0 n1 n2 n3 c0 c1 c2 c3 : Nat) (w : World) :
    Calls Try.prog 5 #[.slice a0 n0 c0, .slice a1 n1 c1, .slice a2 n2 c2, .slice a3 n3 c3] w fun e w' => ∃ r : Bool, e = .returned (.bool r) ∧ w = w' := by
  go_enter Try.func5, Try.ntmps5
  go_wp2
  all_goals
    go_ret
    exact ⟨_, rfl, rfl⟩

set_option maxHeartbeats 400000 in
theorem bytes10 (a0 a1 a2 a3 : Option Addr) (n0 n1 n2 n3 c0 c1 c2 c3 : Nat) (w : World) :
    Calls Try.prog 10 #[.slice a0 n0 c0, .slice a1 n1 c1, .slice a2 n2 c2, .slice a3 n3 c3] w fun e w' => ∃ r : Bool, e = .returned (.bool r) ∧ w = w' := by
  go_enter Try.func10, Try.ntmps10
  go_wp2
  all_goals
    go_ret
    exact ⟨_, rfl, rfl⟩

theorem Try.info3 : (Try.prog.info? 3).map (fun i => (i.zero, i.size, i.bytes)) = some (some (.int .i64 0), 1, 8) := by kernel_rfl
theorem Try.info31 : (Try.prog.info? 31).map (fun i => (i.zero, i.size, i.bytes)) = some (some (.int .u64 0), 1, 8) := by kernel_rfl
theorem Try.size3 : (Try.prog.info? 3).map (·.size) = some 1 := by kernel_rfl
theorem Try.size31 : (Try.prog.info? 31).map (·.size) = some 1 := by kernel_rfl

/-- 'copy' OF A WHOLE SLICE OF NUMBERS INTO A ROW THAT HAS JUST BEEN MADE. -/
theorem copy_new (T E : TypeId) (k : IntKind) (hu : Try.prog.underlying T = some (.slice E)) (hs : (Try.prog.info? E).map (·.size) = some 1) (x : Addr) (n c : Nat) (zs : List Int) (wc : World) (h : Ints k wc (some x) n zs) (ty : TypeId) :
    (Builtin.copy_ #[T, T] ty #[.slice (some ⟨wc.heap.size, 0, none⟩) n n, .slice (some x) n c]).run Try.prog (wc.alloc (.cells (madeCells #[.int k 0] n) E)) = .ok (goInt n) (wc.alloc (.cells (zs.map (Value.int k)).toArray E)) := by
  obtain ⟨hl, hc⟩ := h
  rcases Nat.eq_zero_or_pos n with h0 | h0
  · subst h0
    obtain rfl : zs = [] := List.eq_nil_of_length_eq_zero hl
    rw [run_copy_none (P := Try.prog) _ T T ty E _ _ _ _ _ _ hu hs (by simp)]
    have : madeCells #[Value.int k 0] 0 = #[] := by simp [madeCells, Array.range_zero']
    rw [this]; rfl
  · obtain ⟨b, off, e, hlt, hcell⟩ := hc 0 h0
    injection e with e
    subst e
    have hg : (wc.alloc (.cells (madeCells #[Value.int k 0] n) E)).heap[wc.heap.size]? = some (.cells (madeCells #[Value.int k 0] n) E (0, 0)) := Deep.blk_alloc_new _ _
    rw [run_copy_row (P := Try.prog) _ T T ty E wc.heap.size 0 n n ⟨b, off, none⟩ n c (madeCells #[Value.int k 0] n) E (zs.map (Value.int k)) hu hs hg (by simp [hl]) ?hsrc (by simp [size_madeCells, hl]) (by intro v hv; obtain ⟨z, _, rfl⟩ := List.mem_map.1 hv; rfl)]
    case hsrc =>
      intro j v hj
      rw [List.getElem?_map] at hj
      obtain ⟨z, hz, rfl⟩ := Option.map_eq_some_iff.1 hj
      have hjn : j < n := by rw [← hl]; exact (List.getElem?_eq_some_iff.1 hz).1
      have hcj := hcell j hjn
      rw [hz] at hcj
      rw [WideShapes.add_plain, World.cell?_alloc_past _ _ _ hlt]
      exact hcj
    have e1 : ((madeCells #[Value.int k 0] n).toList.take 0 ++ zs.map (Value.int k) ++ (madeCells #[Value.int k 0] n).toList.drop (0 + (zs.map (Value.int k)).length)).toArray = (zs.map (Value.int k)).toArray := by
      have : (madeCells #[Value.int k 0] n).toList.drop (0 + (zs.map (Value.int k)).length) = [] := by
        apply List.drop_eq_nil_of_le; simp [size_madeCells, hl]
      rw [this]; simp
    rw [e1]
    have e2 := World.setRow_alloc_new wc (madeCells #[Value.int k 0] n) (zs.map (Value.int k)).toArray E
    rw [e2]
    simp [hl]

/-- What has just been copied reads as the numbers. -/
theorem copied (E : TypeId) (k : IntKind) (n : Nat) (zs : List Int) (wc : World) (hl : zs.length = n) : Ints k (wc.alloc (.cells (zs.map (Value.int k)).toArray E)) (some ⟨wc.heap.size, 0, none⟩) n zs := by
  refine ⟨hl, fun _ _ => ⟨wc.heap.size, 0, rfl, by simp, fun i hi => ?_⟩⟩
  rw [World.cell?_alloc_at _ _ _ _ rfl]
  have : i < zs.length := by omega
  simp [this]

theorem make22 (n : Nat) (hn : n ≤ 65536) (w : World) : (Instr.makeSlice 22 (.int .i64 (n : Int)) (.int .i64 (n : Int))).run Try.prog w = .ok (.slice (some ⟨w.heap.size, 0, none⟩) n n) (w.alloc (.cells (madeCells #[.int .i64 0] n) 3)) :=
  run_make_row' 22 3 (.int .i64 0) 8 Try.underlying22 Try.info3 rfl .i64 .i64 n (by omega) (by omega) w
theorem make23 (n : Nat) (hn : n ≤ 65536) (w : World) : (Instr.makeSlice 23 (.int .i64 (n : Int)) (.int .i64 (n : Int))).run Try.prog w = .ok (.slice (some ⟨w.heap.size, 0, none⟩) n n) (w.alloc (.cells (madeCells #[.int .u64 0] n) 31)) :=
  run_make_row' 23 31 (.int .u64 0) 8 Try.underlying23 Try.info31 rfl .i64 .i64 n (by omega) (by omega) w

end Go.Proofs.Qxb6618271a
