/-
  WHAT THE ROW's FRAME KNOWS OF A SLICE OF INTEGERS, AND WHAT THE WALKS ASK.
-/
import Derived.Test.Qxb6618271aForm
import Derived.OpenShut
namespace Go.Proofs.Qxb6618271a
open Go.RowKit

/-- WHAT THE WALK IS TOLD OF A SLICE OF INTEGERS THAT CAME IN: it is nil; or it leads to a row of 'cap' cells, the numbers 'zs' (the first 'len' are its elements, the rest its spare room), each fitting its kind. -/
def IsRow (k : IntKind) (w : World) (a : Option Addr) (len cap : Nat) (zs : List Int) : Prop :=
  (a = none ∧ len = 0 ∧ cap = 0 ∧ zs = []) ∨
  ∃ x, a = some x ∧ len ≤ cap ∧ cap ≤ maxLen ∧ zs.length = cap ∧ (∀ i, i < zs.length → w.cell? (x.add i) = some (.int k (zs.getD i 0))) ∧ ∀ n ∈ zs, (Lit.int k n).wf = true

theorem cell_lt {w : World} {b o : Nat} {v : Value} (h : w.cell? ⟨b, o, none⟩ = some v) : b < w.heap.size := by
  rcases Nat.lt_or_ge b w.heap.size with h1 | h1
  · exact h1
  · simp [World.cell?, Array.getElem?_eq_none h1] at h

theorem ints_of_row {k : IntKind} {w : World} {a : Option Addr} {len cap : Nat} {zs : List Int} (h : IsRow k w a len cap zs) : Ints k w a len (zs.take len) := by
  rcases h with ⟨rfl, rfl, rfl, rfl⟩ | ⟨x, rfl, hl, hm, hz, hc, hw⟩
  · exact ⟨rfl, fun i hi => by omega⟩
  · refine ⟨by simp; omega, fun i hi => ?_⟩
    obtain ⟨b, off, rfl, hcc⟩ := ints_at hc (by omega)
    refine ⟨b, off, rfl, cell_lt (hcc 0 (by omega)), fun j hj => ?_⟩
    rw [hcc j (by omega)]
    simp [hj]

theorem u64s_of_row {w : World} {a : Option Addr} {len cap : Nat} {zs : List Int} (h : IsRow .u64 w a len cap zs) : U64s (zs.take len) := by
  rcases h with ⟨rfl, rfl, rfl, rfl⟩ | ⟨x, rfl, hl, hm, hz, hc, hw⟩
  · intro i hi; simp at hi
  · intro i hi
    have hi' : i < len := by simp at hi; omega
    have hzi : i < zs.length := by omega
    have e : (zs.take len)[i]?.getD 0 = zs[i] := by simp [hi', hzi]
    have hb := bounds_u64 (hw zs[i] (List.getElem_mem _))
    rw [e]; omega

end Go.Proofs.Qxb6618271a
