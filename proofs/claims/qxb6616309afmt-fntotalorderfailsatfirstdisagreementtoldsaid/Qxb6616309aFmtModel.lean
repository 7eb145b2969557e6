/-
  THE PLAIN MODEL: the places of the labels, the deliveries, the orders, step by step.
-/
import Derived.Test.Qxb6616309aFmtIndex
namespace Go.Proofs.Qxb6616309aFmt

/-- the places of the labels and how many there are, behind k steps with labels g -/
structure Pl where
  of : Nat → Int
  nx : Nat
def plStep (s : Pl) (l : Nat) : Pl := if s.of l < 0 then ⟨upd s.of l (s.nx : Int), s.nx + 1⟩ else s
def plAt (g : Nat → Nat) : Nat → Pl
  | 0 => ⟨fun _ => -1, 0⟩
  | k + 1 => plStep (plAt g k) (g k)
/-- the place of step k's label, behind that step -/
def plOf (g : Nat → Nat) (k : Nat) : Nat := ((plAt g (k + 1)).of (g k)).toNat

def ordStep (os : List (List Int)) (q m : Nat) : List (List Int) := if (m : Int) ∈ rowOf os q then os else os.set q (rowOf os q ++ [(m : Int)])
def ordAt (f g : Nat → Nat) (n : Nat) : Nat → List (List Int)
  | 0 => List.replicate n []
  | k + 1 => ordStep (ordAt f g n k) (f k) (plOf g k)

theorem ordAt_length (f g : Nat → Nat) (n k : Nat) : (ordAt f g n k).length = n := by
  induction k with
  | zero => simp [ordAt]
  | succ k ih =>
    unfold ordAt ordStep
    split
    · exact ih
    · rw [List.length_set]; exact ih

theorem plAt_range (g : Nat → Nat) (k : Nat) : (∀ l, -1 ≤ (plAt g k).of l ∧ (plAt g k).of l < ((plAt g k).nx : Int)) ∧ (plAt g k).nx ≤ k := by
  induction k with
  | zero => exact ⟨fun l => by simp [plAt], by simp [plAt]⟩
  | succ k ih =>
    unfold plAt plStep
    split
    · refine ⟨fun l => ?_, ?_⟩
      · have := ih.1 l
        have e : (upd (plAt g k).of (g k) ((plAt g k).nx : Int)) l = if l = g k then ((plAt g k).nx : Int) else (plAt g k).of l := rfl
        show -1 ≤ (upd (plAt g k).of (g k) ((plAt g k).nx : Int)) l ∧ (upd (plAt g k).of (g k) ((plAt g k).nx : Int)) l < (((plAt g k).nx + 1 : Nat) : Int)
        rw [e]
        split <;> omega
      · show (plAt g k).nx + 1 ≤ k + 1
        omega
    · exact ⟨ih.1, by have := ih.2; omega⟩
theorem plOf_lt (g : Nat → Nat) (k : Nat) : plOf g k < (plAt g (k + 1)).nx ∧ (plAt g (k + 1)).of (g k) = (plOf g k : Int) := by
  have h : 0 ≤ (plAt g (k + 1)).of (g k) := by
    unfold plAt plStep
    split
    · simp [upd]
    · omega
  have := (plAt_range g (k + 1)).1 (g k)
  unfold plOf
  omega
end Go.Proofs.Qxb6616309aFmt
