/-
  'clear(s[k:])' on a row of ranges; the lists that the compacting loop passes through.
-/
import Derived.Test.Qxb6618291aMem
namespace Go.Proofs.Qxb6618291a
open Go.RowKit

/-- m zero ranges' cells. -/
def zcells : Nat → List Value
  | 0 => []
  | m + 1 => .string ByteArray.empty :: .int .u64 0 :: zcells m
theorem length_zcells (m : Nat) : (zcells m).length = m * 2 := by
  induction m with
  | zero => rfl
  | succ m ih => simp [zcells, ih]; omega
theorem zcells_get (m i : Nat) (h : i < m * 2) : (zcells m)[i]? = some (if i % 2 = 0 then .string ByteArray.empty else .int .u64 0) := by
  induction m generalizing i with
  | zero => omega
  | succ m ih =>
    match i with
    | 0 => rfl
    | 1 => rfl
    | i + 2 =>
      rw [zcells]
      simp only [List.getElem?_cons_succ]
      rw [ih i (by omega)]
      congr 2
      rw [show (i + 2) % 2 = i % 2 from by omega]
theorem zcells_one (m : Nat) : ∀ v ∈ zcells m, v.oneCell' = true := by
  induction m with
  | zero => intro v hv; cases hv
  | succ m ih =>
    intro v hv
    simp only [zcells, List.mem_cons] at hv
    rcases hv with rfl | rfl | hv
    · rfl
    · rfl
    · exact ih v hv

theorem zero_cells (m : Nat) : (Builtin.zeroCells #[Value.string ByteArray.empty, Value.int .u64 0] m).toList = zcells m := by
  apply List.ext_getElem?
  intro i
  by_cases h : i < m * 2
  · rw [zcells_get m i h]
    have : i % 2 = 0 ∨ i % 2 = 1 := by omega
    rcases this with e | e <;> simp [Builtin.zeroCells, h, e]
  · have h1 : (zcells m)[i]? = none := List.getElem?_eq_none (by rw [length_zcells]; omega)
    have h2 : (Builtin.zeroCells #[Value.string ByteArray.empty, Value.int .u64 0] m).toList[i]? = none := List.getElem?_eq_none (by simp [Builtin.zeroCells]; omega)
    rw [h1, h2]

theorem Try.zero36 (w : World) : (zeroValue 36).run Try.prog w = .ok (.agg #[.string ByteArray.empty, .int .u64 0]) w := by
  obtain ⟨i, hi, hzz⟩ := Option.map_eq_some_iff.1 Try.info36
  simp only [Prod.mk.injEq] at hzz
  simp [zeroValue, typeInfo, hi, hzz.1]

theorem run_clear_ranges {w : World} {g N : Nat} {f : Nat → Value} (hr : w.rowIs g 36 N f) (o m c : Nat) (hm : 0 < m) (hfit : o + m * 2 ≤ N) (ty : TypeId) :
    (Builtin.clear_ #[34] ty #[.slice (some ⟨g, o, none⟩) m c]).run Try.prog w = .ok (.tuple #[]) (w.setCells g o (zcells m)) := by
  have hst := run_storeCells_cells (P := Try.prog) g o (zcells m) 0 w (by intro j hj; rw [length_zcells] at hj; rw [hr.cell (i := o + 0 + j) (by omega)]; rfl) (by intro j hj; exact hr.frozen _) (zcells_one m)
  simp only [Nat.add_zero] at hst
  obtain ⟨m', rfl⟩ : ∃ m', m = m' + 1 := ⟨m - 1, by omega⟩
  have hz : (Builtin.zeroCells #[Value.string ⟨#[]⟩, Value.int .u64 0] (m' + 1)).toList = zcells (m' + 1) := zero_cells (m' + 1)
  simp [Builtin.clear_, run_underlying Try.underlying34, Value.cells, hz, hst]

/-- Behind the clearing of all from the m-th on, nothing but the first m is left. -/
theorem row_cleared {w : World} {g n : Nat} {L : List Rng} (hr : w.rowIs g 36 (n * 2) (pcell L)) (m : Nat) (hm : m ≤ n) (hl : m ≤ L.length) : (w.setCells g (m * 2) (zcells (n - m))).rowIs g 36 (n * 2) (pcell (L.take m)) := by
  refine (row_setCells (zcells (n - m)) (m * 2) hr).congr fun i hi => ?_
  rw [length_zcells]
  by_cases h : m * 2 ≤ i
  · rw [if_pos ⟨h, by omega⟩, zcells_get _ _ (by omega), pcell_past (by rw [List.length_take]; omega)]
    rw [show (i - m * 2) % 2 = i % 2 from by omega]
    rfl
  · rw [if_neg (by omega)]
    apply pcell_congr
    rw [List.getElem?_take_of_lt (by omega)]

/-- The list in the row while the compacting loop goes: what is kept so far, then the old ones. -/
def mid (C L : List Rng) : List Rng := C ++ L.drop C.length
theorem mid_ge {C L : List Rng} {i : Nat} (h : C.length ≤ i) : (mid C L)[i]? = L[i]? := by
  unfold mid
  rw [List.getElem?_append_right h, List.getElem?_drop]
  congr 1; omega
theorem mid_lt {C L : List Rng} {i : Nat} (h : i < C.length) : (mid C L)[i]? = C[i]? := by
  unfold mid
  rw [List.getElem?_append_left h]
theorem mid_take (L : List Rng) (k : Nat) (h : k ≤ L.length) : mid (L.take k) L = L := by
  unfold mid
  rw [List.length_take, Nat.min_eq_left h, List.take_append_drop]
theorem mid_snoc {C L : List Rng} (x : Rng) (i : Nat) : (mid (C ++ [x]) L)[i]?.getD dP = if i = C.length then x else (mid C L)[i]?.getD dP := by
  by_cases h1 : i < C.length
  · rw [mid_lt (by simp; omega), mid_lt h1, if_neg (by omega), List.getElem?_append_left h1]
  · by_cases h2 : i = C.length
    · subst h2; rw [mid_lt (by simp), if_pos rfl]; simp
    · rw [mid_ge (by simp; omega), mid_ge (by omega), if_neg h2]
/-- A range stored in the row. -/
theorem row_put {w : World} {g n : Nat} {C L : List Rng} (hr : w.rowIs g 36 (n * 2) (pcell (mid C L))) (x : Rng) :
    ((w.setCell ⟨g, C.length * 2, none⟩ (.string x.1)).setCell ⟨g, C.length * 2 + 1, none⟩ (.int .u64 x.2)).rowIs g 36 (n * 2) (pcell (mid (C ++ [x]) L)) := by
  refine ((hr.set (C.length * 2) _).set (C.length * 2 + 1) _).congr fun i _ => ?_
  by_cases h1 : i = C.length * 2 + 1
  · subst h1; rw [if_pos rfl, pcell_odd, mid_snoc, if_pos rfl]
  · by_cases h2 : i = C.length * 2
    · subst h2; rw [if_neg (by omega), if_pos rfl, pcell_even, mid_snoc, if_pos rfl]
    · rw [if_neg h1, if_neg h2]
      apply pcell_congr
      rw [mid_snoc, if_neg (by omega)]
theorem mid_full {C L : List Rng} : (mid C L).take C.length = C := by unfold mid; simp
theorem length_mid {C L : List Rng} (h : C.length ≤ L.length) : (mid C L).length = L.length := by unfold mid; simp; omega

end Go.Proofs.Qxb6618291a
