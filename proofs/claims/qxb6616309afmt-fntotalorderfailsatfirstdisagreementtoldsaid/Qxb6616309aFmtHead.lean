/-
  WHAT THE LAW's WALK LEANS ON: the nodes, the steps, the state of the loop.
-/
import Derived.Test.Qxb6616309aFmtStep
import Derived.Test.Qxb6616309aFmtAgree
import Derived.Test.Qxb6616309aFmtStart
namespace Go.Proofs.Qxb6616309aFmt
open Go.RowKit

/-- the steps as they came in -/
def RdI (w : World) (a : Option Addr) (k : Nat) (x y : Nat → Int) : Prop :=
  ∀ i, i < k → ∃ b off, a = some ⟨b, off, none⟩ ∧ b < w.heap.size ∧ ∀ i, i < k → w.cell? ⟨b, off + i * 2, none⟩ = some (.int .i64 (x i)) ∧ w.cell? ⟨b, off + i * 2 + 1, none⟩ = some (.int .i64 (y i))
theorem rds_of {w : World} {a : Option Addr} {k : Nat} {x y : Nat → Int} (h : RdI w a k x y) (hx : ∀ i, i < k → 0 ≤ x i) (hy : ∀ i, i < k → 0 ≤ y i) : RdS w a k (fun i => (x i).toNat) (fun i => (y i).toNat) := by
  intro i hi
  obtain ⟨b, off, e, hlt, hc⟩ := h i hi
  refine ⟨b, off, e, hlt, fun j hj => ?_⟩
  obtain ⟨h1, h2⟩ := hc j hj
  rw [h1, h2, Int.toNat_of_nonneg (hx j hj), Int.toNat_of_nonneg (hy j hj)]
  exact ⟨rfl, rfl⟩
theorem RdS.le {w : World} {a : Option Addr} {k k' : Nat} {f g : Nat → Nat} (h : RdS w a k f g) (hk : k' ≤ k) : RdS w a k' f g := by
  intro i hi
  obtain ⟨b, off, e, hlt, hc⟩ := h i (by omega)
  exact ⟨b, off, e, hlt, fun j hj => hc j (by omega)⟩

/-- the nodes' names, where there is a node -/
def NodesOk (w : World) (a : Option Addr) (n : Nat) (N : Nat → ByteArray) : Prop := ∀ i, i < n → ∃ nb, a = some ⟨nb, 0, none⟩ ∧ Names w nb n N
theorem NodesOk.below {w w' : World} {a : Option Addr} {n : Nat} {N : Nat → ByteArray} (h : NodesOk w a n N) (hb : Below w.heap.size w w') : NodesOk w' a n N := by
  intro i hi
  obtain ⟨nb, e, hN⟩ := h i hi
  exact ⟨nb, e, hN.below hb⟩
theorem NodesOk.keep {T : List TypeId} {w w' : World} {a : Option Addr} {n : Nat} {N : Nat → ByteArray} (h : NodesOk w a n N) (hk : Keep (tyS w T) w w') (hT : 9 ∉ T) : NodesOk w' a n N := by
  intro i hi
  obtain ⟨nb, e, hN⟩ := h i hi
  exact ⟨nb, e, hN.keep hk hT⟩

theorem clone2_any (a : Option Addr) (n c : Nat) (N : Nat → ByteArray) (w : World) (hn : n ≤ 65536) (ha : a = none → n = 0) (h : Strs w a n N) (hs : ∀ i, i < n → (N i).size ≤ 1048576) :
    Calls Tryf.prog 5 #[.slice a n c] w fun e w' => ∃ a0 c0 N0, e = .returned (.slice a0 n c0) ∧ NodesOk w' a0 n N0 ∧ Below w.heap.size w w' := by
  refine (clone_any a n c N w (by omega) ha h).mono ?_
  rintro e w' (⟨h0, rfl, rfl⟩ | ⟨nb, rfl, _, hrow, hb⟩)
  · subst h0
    exact ⟨none, 0, N, rfl, fun i hi => by omega, Below.refl _ _⟩
  · refine ⟨_, _, (fun i => if i < n then N i else ByteArray.empty), rfl, fun i hi => ⟨nb, rfl, hrow.congr fun j hj => by rw [if_pos hj], fun j => ?_, hn⟩, hb⟩
    split
    · exact hs j ‹_›
    · exact Nat.zero_le _

theorem rdn_nil {w : World} {ob n : Nat} (h : w.rowIs ob 58 n (fun _ => .slice none 0 0)) : RdN w (some ⟨ob, 0, none⟩) n (List.replicate n []) := by
  intro i hi
  have e : lenOf (List.replicate n ([] : List Int)) i = 0 := by simp [lenOf, rowOf, hi]
  rw [e]
  exact ⟨ob, none, 0, rfl, h.lt, h.cell hi, fun j hj => by omega, by omega⟩

/-- the deliveries in memory -/
structure Dels (B : Nat) (w : World) (n i nx : Nat) (ad : Option Addr) (cd : Nat) (os : List (List Int)) : Prop where
  ex : ∃ ds V, Nest ED 43 45 2 B w (.slice ad nx cd) ds V ∧ Inv n i nx ds os

/-- the loop's state behind i steps -/
structure St (B : Nat) (W w : World) (a0 : Option Addr) (N : Nat → ByteArray) (pb ob n i : Nat) (f g : Nat → Nat) (ad : Option Addr) (cd : Nat) : Prop where
  names : NodesOk w a0 n N
  pl : w.rowIs pb 28 256 (fun j => .int .i64 ((plAt g i).of j))
  dels : ∃ ds V, Nest ED 43 45 2 B w (.slice ad (plAt g i).nx cd) ds V ∧ Inv n i (plAt g i).nx ds (ordAt f g n i)
  ords : ∃ V, Nest EI 58 3 1 B w (.slice (some ⟨ob, 0, none⟩) n n) (ordAt f g n i) V
  agree : AgreeP n (ordAt f g n i)
  below : Below B W w

/-- what the loop leaves -/
structure Done (B : Nat) (W w : World) (ob n k r : Nat) (f g : Nat → Nat) : Prop where
  low : 1 ≤ r
  high : r ≤ k + 1
  ords : ∃ V, Nest EI 58 3 1 B w (.slice (some ⟨ob, 0, none⟩) n n) (ordAt f g n (min r k)) V
  before : AgreeP n (ordAt f g n (r - 1))
  parts : r ≤ k → ¬ AgreeP n (ordAt f g n r)
  below : Below B W w

theorem agree_nil (f g : Nat → Nat) (n : Nat) : AgreeP n (ordAt f g n 0) := by
  intro p q _ _ i j a b _ hj
  have e : lenOf (ordAt f g n 0) p ≤ 0 := ord_len_le f g n 0 p
  omega
/-- what the scan of a message's deliveries finds -/
def Scan (ds : List (List (Int × Int))) (m p : Nat) (z : Int) : Prop := (z = -1 ∧ ∀ j, ¬ DelAt ds m p j) ∨ ∃ j : Nat, z = (j : Int) ∧ DelAt ds m p j

/-- behind the step's place -/
structure Mid (B : Nat) (wa wc : World) (pb n t : Nat) (f g : Nat → Nat) (ad : Option Addr) (cd : Nat) : Prop where
  pl : wc.rowIs pb 28 256 (fun j => .int .i64 ((plAt g (t + 1)).of j))
  dels : ∃ ds V, Nest ED 43 45 2 B wc (.slice ad (plAt g (t + 1)).nx cd) ds V ∧ Inv n t (plAt g (t + 1)).nx ds (ordAt f g n t)
  keep : Keep (tyB B wa [28, 43]) wa wc
/-- behind the step's delivery -/
structure Late (B : Nat) (wa wc : World) (n t m fs p : Nat) (f g : Nat → Nat) (ad : Option Addr) (cd : Nat) : Prop where
  dels : ∃ ds V, Nest ED 43 45 2 B wc (.slice ad (plAt g (t + 1)).nx cd) ds V ∧ Told n t (plAt g (t + 1)).nx p m fs ds (ordAt f g n t) (ordAt f g n (t + 1))
  keep : Keep (tyB B wa [43, 45]) wa wc

theorem start_any (tb bb n c : Nat) (a : Option Addr) (v : Value) (w : World) (hn : n ≤ 65536) (ht : w.rowIs tb 53 2 (tcell bb v)) (h6 : w.cell? ⟨bb, 6, none⟩ = some (.int .i64 (-1))) (hne : bb ≠ tb) :
    Calls Tryf.prog 8 #[.pointer (some ⟨tb, 0, none⟩), .agg (lineA 1 ⟨#[115, 116, 97, 114, 116]⟩ a n c ByteArray.empty)] w fun e w' => e = .returned (.string ByteArray.empty) ∧
      ∃ ob, w.heap.size ≤ ob ∧ w'.rowIs tb 53 2 (tcell bb (.slice (some ⟨ob, 0, none⟩) n n)) ∧ w'.rowIs ob 58 n (fun _ => .slice none 0 0) ∧ Keep (fun k => k = tb) w w' := by
  refine callFails_any tb 1 _ a n c ByteArray.empty w ?_
  have hb : Below w.heap.size w (w.alloc (.cells (lineA 1 ⟨#[115, 116, 97, 114, 116]⟩ a n c ByteArray.empty) 39)) := (Below.refl _ _).alloc (Nat.le_refl _) _
  generalize w.alloc (.cells (lineA 1 ⟨#[115, 116, 97, 114, 116]⟩ a n c ByteArray.empty) 39) = w1 at hb ⊢
  have hlt := World.block_lt_of_cell? _ _ h6
  refine Calls.mono (failsStart_any tb bb n c a v 1 ByteArray.empty w1 hn (row_below ht hb ht.lt) ((hb.cell (p := ⟨bb, 6, none⟩) hlt).trans h6) hne) ?_
  rintro e w2 ⟨rfl, ob, h1, h2, h3, h4⟩
  exact ⟨_, rfl, rfl, ob, Nat.le_trans hb.size h1, h2, h3, (Keep.of_below hb).trans h4⟩
end Go.Proofs.Qxb6616309aFmt
