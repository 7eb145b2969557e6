/-
  MEMORY: what only some blocks turn ('Keep'); a row of ranges; slices of strings and of integers that are read; 'make', 'copy', 'clear' on rows of the call's own.
-/
import Derived.Test.Qxb6618291aRows
import Derived.Test.Qxb6618291aPlain2
import Derived.WalkKit
import Derived.WalkLawsBesides
import Derived.Deep.OwnRows
import Derived.Deep.WholeRow
import Derived.Laws.CopyOwn
import Derived.Lib.SliceRun
namespace Go.Proofs.Qxb6618291a
open Go.RowKit

/-- w' IS w BUT FOR NEW BLOCKS AND FOR THE BLOCKS OF S. -/
structure Keep (S : Nat → Prop) (w w' : World) : Prop where
  os : w'.os = w.os
  tape : w'.tape = w.tape
  output : w'.output = w.output
  size : w.heap.size ≤ w'.heap.size
  block : ∀ k, k < w.heap.size → ¬ S k → w'.heap[k]? = w.heap[k]?

namespace Keep
variable {S T : Nat → Prop} {w w' w'' : World}
theorem refl (S : Nat → Prop) (w : World) : Keep S w w := ⟨rfl, rfl, rfl, Nat.le_refl _, fun _ _ _ => rfl⟩
theorem trans (h : Keep S w w') (k : Keep S w' w'') : Keep S w w'' :=
  ⟨k.os.trans h.os, k.tape.trans h.tape, k.output.trans h.output, Nat.le_trans h.size k.size, fun i hi hs => (k.block i (Nat.lt_of_lt_of_le hi h.size) hs).trans (h.block i hi hs)⟩
theorem mono (h : Keep S w w') (hST : ∀ k, k < w.heap.size → S k → T k) : Keep T w w' := ⟨h.os, h.tape, h.output, h.size, fun k hk hn => h.block k hk (fun hs => hn (hST k hk hs))⟩
theorem alloc (h : Keep S w w') (o : Obj) : Keep S w (w'.alloc o) :=
  h.trans ⟨rfl, rfl, rfl, by simp, fun k hk _ => Below.heap_alloc _ _ _ hk⟩
theorem drew (h : Keep S w w') : Keep S w w'.drew := ⟨h.os, h.tape, h.output, h.size, h.block⟩
theorem drewN (h : Keep S w w') (n : Nat) : Keep S w (w'.drewN n) := h.trans ⟨rfl, rfl, rfl, Nat.le_refl _, fun _ _ _ => rfl⟩
theorem setCell (h : Keep S w w') {a : Addr} (ha : S a.block ∨ w.heap.size ≤ a.block) (v : Value) : Keep S w (w'.setCell a v) := by
  refine ⟨h.os, h.tape, h.output, by simpa [World.setCell] using h.size, fun k hk hs => ?_⟩
  have hne : k ≠ a.block := by
    rintro rfl
    rcases ha with ha | ha
    · exact hs ha
    · omega
  exact (Below.heap_setCell w' a v k hne).trans (h.block k hk hs)
theorem of_below (h : Below w.heap.size w w') : Keep S w w' := ⟨h.os, h.tape, h.output, h.size, fun k hk _ => h.block k hk⟩
theorem below {B : Nat} (h : Keep S w w') (hB : B ≤ w.heap.size) (hS : ∀ k, S k → B ≤ k) : Below B w w' := ⟨h.os, h.tape, h.output, h.size, fun k hk => h.block k (by omega) (fun hs => by have := hS k hs; omega)⟩
theorem row {b t n : Nat} {f : Nat → Value} (h : Keep S w w') (r : w.rowIs b t n f) (hs : ¬ S b) : w'.rowIs b t n f := r.of_block (h.block b r.lt hs)
end Keep

theorem row_below {B : Nat} {w w' : World} {b t n : Nat} {f : Nat → Value} (r : w.rowIs b t n f) (h : Below B w w') (hlt : b < B) : w'.rowIs b t n f := r.of_block (h.block b hlt)
theorem row_drewN {w : World} {b t n : Nat} {f : Nat → Value} (h : w.rowIs b t n f) (k : Nat) : (w.drewN k).rowIs b t n f := by
  induction k with
  | zero => exact h
  | succ k ih => exact ih

/-- Cells laid in a row, one behind the other. -/
theorem row_setCells {w : World} {b t n : Nat} {f : Nat → Value} (vs : List Value) (o : Nat) (h : w.rowIs b t n f) :
    (w.setCells b o vs).rowIs b t n (fun i => if o ≤ i ∧ i < o + vs.length then vs[i - o]?.getD undef else f i) := by
  induction vs generalizing w o f with
  | nil => exact h.congr fun i _ => by rw [if_neg (by simp)]
  | cons v r ih =>
    refine (ih (o + 1) (h.set o v)).congr fun i _ => ?_
    by_cases h1 : i = o
    · subst h1; rw [if_neg (by omega), if_pos rfl, if_pos (by simp)]; simp
    · by_cases h2 : o + 1 ≤ i ∧ i < o + 1 + r.length
      · rw [if_pos h2, if_pos (by simp; omega)]
        obtain ⟨j, rfl⟩ : ∃ j, i = o + 1 + j := ⟨i - (o + 1), by omega⟩
        rw [show o + 1 + j - (o + 1) = j from by omega, show o + 1 + j - o = j + 1 from by omega]
        simp
      · rw [if_neg h2, if_neg h1, if_neg (by simp; omega)]
theorem keep_setCells {S : Nat → Prop} {w w' : World} (h : Keep S w w') {b : Nat} (hb : S b) (vs : List Value) (o : Nat) : Keep S w (w'.setCells b o vs) := by
  induction vs generalizing w' o with
  | nil => exact h
  | cons v r ih => exact ih (h.setCell (a := ⟨b, o, none⟩) (Or.inl hb) v) (o + 1)

/-! ### a row of ranges: two cells each -/
def pcell (L : List Rng) (i : Nat) : Value := if i % 2 = 0 then .string (L[i / 2]?.getD dP).1 else .int .u64 (L[i / 2]?.getD dP).2
theorem pcell_even (L : List Rng) (j : Nat) : pcell L (j * 2) = .string (L[j]?.getD dP).1 := by
  unfold pcell; rw [if_pos (by omega), show j * 2 / 2 = j from by omega]
theorem pcell_odd (L : List Rng) (j : Nat) : pcell L (j * 2 + 1) = .int .u64 (L[j]?.getD dP).2 := by
  unfold pcell; rw [if_neg (by omega), show (j * 2 + 1) / 2 = j from by omega]
theorem pcell_congr {L K : List Rng} {i : Nat} (h : L[i / 2]?.getD dP = K[i / 2]?.getD dP) : pcell L i = pcell K i := by unfold pcell; rw [h]
theorem pcell_past {L : List Rng} {i : Nat} (h : L.length ≤ i / 2) : pcell L i = if i % 2 = 0 then .string ByteArray.empty else .int .u64 0 := by
  unfold pcell
  rw [List.getElem?_eq_none h]
  rfl

/-! ### slices that are read -/
def Ints (k : IntKind) (w : World) (a : Option Addr) (n : Nat) (zs : List Int) : Prop :=
  zs.length = n ∧ ∀ i, i < n → ∃ b off, a = some ⟨b, off, none⟩ ∧ b < w.heap.size ∧ ∀ i, i < n → w.cell? ⟨b, off + i, none⟩ = some (.int k (zs[i]?.getD 0))
def Strs (w : World) (a : Option Addr) (n : Nat) (ss : List ByteArray) : Prop :=
  ss.length = n ∧ ∀ i, i < n → ∃ b off, a = some ⟨b, off, none⟩ ∧ b < w.heap.size ∧ ∀ i, i < n → w.cell? ⟨b, off + i, none⟩ = some (.string (ss[i]?.getD ByteArray.empty))

theorem Ints.below {k : IntKind} {w w' : World} {a : Option Addr} {n : Nat} {zs : List Int} (h : Ints k w a n zs) (hb : Below w.heap.size w w') : Ints k w' a n zs := by
  refine ⟨h.1, fun i hi => ?_⟩
  obtain ⟨b, off, e, hlt, hc⟩ := h.2 i hi
  exact ⟨b, off, e, Nat.lt_of_lt_of_le hlt hb.size, fun j hj => (hb.cell (p := ⟨b, off + j, none⟩) hlt).trans (hc j hj)⟩
theorem Strs.below {w w' : World} {a : Option Addr} {n : Nat} {ss : List ByteArray} (h : Strs w a n ss) (hb : Below w.heap.size w w') : Strs w' a n ss := by
  refine ⟨h.1, fun i hi => ?_⟩
  obtain ⟨b, off, e, hlt, hc⟩ := h.2 i hi
  exact ⟨b, off, e, Nat.lt_of_lt_of_le hlt hb.size, fun j hj => (hb.cell (p := ⟨b, off + j, none⟩) hlt).trans (hc j hj)⟩

theorem Ints.of_row {k : IntKind} {w : World} {g t n : Nat} {zs : List Int} (h : w.rowIs g t n (fun i => .int k (zs[i]?.getD 0))) (hl : zs.length = n) : Ints k w (some ⟨g, 0, none⟩) n zs :=
  ⟨hl, fun _ _ => ⟨g, 0, rfl, h.lt, fun i hi => by rw [Nat.zero_add]; exact h.cell hi⟩⟩
theorem Strs.of_row {w : World} {g t n : Nat} {ss : List ByteArray} (h : w.rowIs g t n (fun i => .string (ss[i]?.getD ByteArray.empty))) (hl : ss.length = n) : Strs w (some ⟨g, 0, none⟩) n ss :=
  ⟨hl, fun _ _ => ⟨g, 0, rfl, h.lt, fun i hi => by rw [Nat.zero_add]; exact h.cell hi⟩⟩

/-! ### make -/
theorem Try.info9 : (Try.prog.info? 9).map (fun i => (i.zero, i.size, i.bytes)) = some (some (.string ByteArray.empty), 1, 16) := by kernel_rfl
theorem Try.info24 : (Try.prog.info? 24).map (fun i => (i.zero, i.size, i.bytes)) = some (some (.int .u64 0), 1, 8) := by kernel_rfl
theorem Try.info3 : (Try.prog.info? 3).map (fun i => (i.zero, i.size, i.bytes)) = some (some (.int .i64 0), 1, 8) := by kernel_rfl
theorem Try.info36 : (Try.prog.info? 36).map (fun i => (i.zero, i.size, i.bytes)) = some (some (.agg #[.string ByteArray.empty, .int .u64 0]), 2, 24) := by kernel_rfl
theorem Try.size9 : (Try.prog.info? 9).map (·.size) = some 1 := by kernel_rfl
theorem Try.size24 : (Try.prog.info? 24).map (·.size) = some 1 := by kernel_rfl

theorem make22 (n : Nat) (hn : n ≤ 1048576) (w : World) : (Instr.makeSlice 22 (.int .i64 (n : Int)) (.int .i64 (n : Int))).run Try.prog w = .ok (.slice (some ⟨w.heap.size, 0, none⟩) n n) (w.alloc (.cells (madeCells #[.string ByteArray.empty] n) 9)) :=
  run_make_row' 22 9 (.string ByteArray.empty) 16 Try.underlying22 Try.info9 rfl .i64 .i64 n (by omega) (by omega) w
theorem make23 (n : Nat) (hn : n ≤ 1048576) (w : World) : (Instr.makeSlice 23 (.int .i64 (n : Int)) (.int .i64 (n : Int))).run Try.prog w = .ok (.slice (some ⟨w.heap.size, 0, none⟩) n n) (w.alloc (.cells (madeCells #[.int .u64 0] n) 24)) :=
  run_make_row' 23 24 (.int .u64 0) 8 Try.underlying23 Try.info24 rfl .i64 .i64 n (by omega) (by omega) w
theorem make38 (n : Nat) (hn : n ≤ 1048576) (w : World) : (Instr.makeSlice 38 (.int .i64 (n : Int)) (.int .i64 (n : Int))).run Try.prog w = .ok (.slice (some ⟨w.heap.size, 0, none⟩) n n) (w.alloc (.cells (madeCells #[.int .i64 0] n) 3)) :=
  run_make_row' 38 3 (.int .i64 0) 8 Try.underlying38 Try.info3 rfl .i64 .i64 n (by omega) (by omega) w
theorem make34 (n : Nat) (hn : n ≤ 1048576) (w : World) :
    (Instr.makeSlice 34 (.int .i64 (n : Int)) (.int .i64 (n : Int))).run Try.prog w = .ok (.slice (some ⟨w.heap.size, 0, none⟩) n n) (w.alloc (.cells (madeCells #[.string ByteArray.empty, .int .u64 0] (n * 2)) 36)) := by
  obtain ⟨i, hi, hzz⟩ := Option.map_eq_some_iff.1 Try.info36
  simp only [Prod.mk.injEq] at hzz
  obtain ⟨hz, hs, hb⟩ := hzz
  have hr := run_make (P := Try.prog) w 34 36 i _ Try.underlying34 hi hz .i64 .i64 n n (by omega) (Int.le_refl _) (by rw [hb]; omega) (by omega)
  simp only [Int.toNat_natCast, hs] at hr
  exact hr

theorem made_ranges (w : World) (n : Nat) : (w.alloc (.cells (madeCells #[.string ByteArray.empty, .int .u64 0] (n * 2)) 36)).rowIs w.heap.size 36 (n * 2) (pcell []) := by
  refine ⟨_, Deep.blk_alloc_new _ _, size_madeCells _ _, fun i hi => ?_⟩
  unfold pcell
  have : i % 2 = 0 ∨ i % 2 = 1 := by omega
  rcases this with h | h <;> simp [madeCells, hi, h, dP]

/-! ### copy of a whole slice into a row that has just been made -/
theorem copy_cells (T E : TypeId) (z : Value) (hu : Try.prog.underlying T = some (.slice E)) (hs : (Try.prog.info? E).map (·.size) = some 1) (x : Addr) (n c : Nat) (vs : List Value) (wc : World) (hl : vs.length = n) (h1 : ∀ v ∈ vs, v.oneCell' = true)
    (hc : 0 < n → ∃ b off, x = ⟨b, off, none⟩ ∧ b < wc.heap.size ∧ ∀ j v, vs[j]? = some v → wc.cell? ⟨b, off + j, none⟩ = some v) (ty : TypeId) :
    (Builtin.copy_ #[T, T] ty #[.slice (some ⟨wc.heap.size, 0, none⟩) n n, .slice (some x) n c]).run Try.prog (wc.alloc (.cells (madeCells #[z] n) E)) = .ok (goInt n) (wc.alloc (.cells vs.toArray E)) := by
  rcases Nat.eq_zero_or_pos n with h0 | h0
  · subst h0
    obtain rfl : vs = [] := List.eq_nil_of_length_eq_zero hl
    rw [run_copy_none (P := Try.prog) _ T T ty E _ _ _ _ _ _ hu hs (by simp)]
    have : madeCells #[z] 0 = #[] := by simp [madeCells, Array.range_zero']
    rw [this]; rfl
  · obtain ⟨b, off, rfl, hlt, hcell⟩ := hc h0
    have hg : (wc.alloc (.cells (madeCells #[z] n) E)).heap[wc.heap.size]? = some (.cells (madeCells #[z] n) E (0, 0)) := Deep.blk_alloc_new _ _
    rw [run_copy_row (P := Try.prog) _ T T ty E wc.heap.size 0 n n ⟨b, off, none⟩ n c (madeCells #[z] n) E vs hu hs hg (by simp [hl]) ?hsrc (by simp [size_madeCells, hl]) h1]
    case hsrc =>
      intro j v hj
      rw [WideShapes.add_plain, World.cell?_alloc_past _ _ _ hlt]
      exact hcell j v hj
    have e1 : ((madeCells #[z] n).toList.take 0 ++ vs ++ (madeCells #[z] n).toList.drop (0 + vs.length)).toArray = vs.toArray := by
      have : (madeCells #[z] n).toList.drop (0 + vs.length) = [] := by
        apply List.drop_eq_nil_of_le; simp [size_madeCells, hl]
      rw [this]; simp
    rw [e1, World.setRow_alloc_new wc (madeCells #[z] n) vs.toArray E]
    simp [hl]

theorem copy23 (x : Addr) (n c : Nat) (zs : List Int) (wc : World) (h : Ints .u64 wc (some x) n zs) (ty : TypeId) :
    (Builtin.copy_ #[23, 23] ty #[.slice (some ⟨wc.heap.size, 0, none⟩) n n, .slice (some x) n c]).run Try.prog (wc.alloc (.cells (madeCells #[.int .u64 0] n) 24)) = .ok (goInt n) (wc.alloc (.cells (zs.map (Value.int .u64)).toArray 24)) := by
  obtain ⟨hl, hc⟩ := h
  refine copy_cells 23 24 _ Try.underlying23 Try.size24 x n c (zs.map (Value.int .u64)) wc (by simpa using hl) (by intro v hv; obtain ⟨z, _, rfl⟩ := List.mem_map.1 hv; rfl) (fun h0 => ?_) ty
  obtain ⟨b, off, e, hlt, hcell⟩ := hc 0 h0
  injection e with e
  refine ⟨b, off, e, hlt, fun j v hj => ?_⟩
  rw [List.getElem?_map] at hj
  obtain ⟨z, hz, rfl⟩ := Option.map_eq_some_iff.1 hj
  have hcj := hcell j (by rw [← hl]; exact (List.getElem?_eq_some_iff.1 hz).1)
  rw [hz] at hcj
  exact hcj
theorem copy22 (x : Addr) (n c : Nat) (ss : List ByteArray) (wc : World) (h : Strs wc (some x) n ss) (ty : TypeId) :
    (Builtin.copy_ #[22, 22] ty #[.slice (some ⟨wc.heap.size, 0, none⟩) n n, .slice (some x) n c]).run Try.prog (wc.alloc (.cells (madeCells #[.string ByteArray.empty] n) 9)) = .ok (goInt n) (wc.alloc (.cells (ss.map Value.string).toArray 9)) := by
  obtain ⟨hl, hc⟩ := h
  refine copy_cells 22 9 _ Try.underlying22 Try.size9 x n c (ss.map Value.string) wc (by simpa using hl) (by intro v hv; obtain ⟨z, _, rfl⟩ := List.mem_map.1 hv; rfl) (fun h0 => ?_) ty
  obtain ⟨b, off, e, hlt, hcell⟩ := hc 0 h0
  injection e with e
  refine ⟨b, off, e, hlt, fun j v hj => ?_⟩
  rw [List.getElem?_map] at hj
  obtain ⟨z, hz, rfl⟩ := Option.map_eq_some_iff.1 hj
  have hcj := hcell j (by rw [← hl]; exact (List.getElem?_eq_some_iff.1 hz).1)
  rw [hz] at hcj
  exact hcj

theorem copied23 (n : Nat) (zs : List Int) (wc : World) (hl : zs.length = n) : Ints .u64 (wc.alloc (.cells (zs.map (Value.int .u64)).toArray 24)) (some ⟨wc.heap.size, 0, none⟩) n zs := by
  refine ⟨hl, fun _ _ => ⟨wc.heap.size, 0, rfl, by simp, fun i hi => ?_⟩⟩
  rw [World.cell?_alloc_at _ _ _ _ rfl]
  have : i < zs.length := by omega
  simp [this]
theorem copied22 (n : Nat) (ss : List ByteArray) (wc : World) (hl : ss.length = n) : Strs (wc.alloc (.cells (ss.map Value.string).toArray 9)) (some ⟨wc.heap.size, 0, none⟩) n ss := by
  refine ⟨hl, fun _ _ => ⟨wc.heap.size, 0, rfl, by simp, fun i hi => ?_⟩⟩
  rw [World.cell?_alloc_at _ _ _ _ rfl]
  have : i < ss.length := by omega
  simp [this]

end Go.Proofs.Qxb6618291a
