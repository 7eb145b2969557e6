/-
  MEMORY: what only some blocks turn ('Keep'); a slice of slices that the call owns ('Nest').
-/
import Derived.Test.Qxb6616309aFmtRows
import Derived.WalkKit
import Derived.WalkLawsBesides
import Derived.Deep.OwnRows
import Derived.Deep.WholeRow
import Derived.Laws.CopyOwn
import Derived.Laws.OwnMore
import Derived.Maps.AppendAt
namespace Go.Proofs.Qxb6616309aFmt
open Go.RowKit

/-- w' IS w BUT FOR NEW BLOCKS AND FOR THE BLOCKS OF S. -/
structure Keep (S : Nat → Prop) (w w' : World) : Prop where
  os : w'.os = w.os
  tape : w'.tape = w.tape
  output : w'.output = w.output
  size : w.heap.size ≤ w'.heap.size
  block : ∀ k, k < w.heap.size → ¬ S k → w'.heap[k]? = w.heap[k]?

namespace Keep
variable {S T : Nat → Prop} {w w' w'' : World}
theorem refl (S : Nat → Prop) (w : World) : Keep S w w := ⟨rfl, rfl, rfl, Nat.le_refl _, fun _ _ _ => rfl⟩
theorem trans (h : Keep S w w') (k : Keep S w' w'') : Keep S w w'' :=
  ⟨k.os.trans h.os, k.tape.trans h.tape, k.output.trans h.output, Nat.le_trans h.size k.size, fun i hi hs => (k.block i (Nat.lt_of_lt_of_le hi h.size) hs).trans (h.block i hi hs)⟩
theorem mono (h : Keep S w w') (hST : ∀ k, k < w.heap.size → S k → T k) : Keep T w w' := ⟨h.os, h.tape, h.output, h.size, fun k hk hn => h.block k hk (fun hs => hn (hST k hk hs))⟩
theorem alloc (h : Keep S w w') (o : Obj) : Keep S w (w'.alloc o) :=
  h.trans ⟨rfl, rfl, rfl, by simp, fun k hk _ => Below.heap_alloc _ _ _ hk⟩
theorem drew (h : Keep S w w') : Keep S w w'.drew := ⟨h.os, h.tape, h.output, h.size, h.block⟩
theorem drewN (h : Keep S w w') (n : Nat) : Keep S w (w'.drewN n) := h.trans ⟨rfl, rfl, rfl, Nat.le_refl _, fun _ _ _ => rfl⟩
theorem setCell (h : Keep S w w') {a : Addr} (ha : S a.block ∨ w.heap.size ≤ a.block) (v : Value) : Keep S w (w'.setCell a v) := by
  refine ⟨h.os, h.tape, h.output, by simpa [World.setCell] using h.size, fun k hk hs => ?_⟩
  have hne : k ≠ a.block := by
    rintro rfl
    rcases ha with ha | ha
    · exact hs ha
    · omega
  exact (Below.heap_setCell w' a v k hne).trans (h.block k hk hs)
theorem grown (h : Keep S w w') {row : Option Nat} (hg : w'.grownBy w'' row) (ha : ∀ g, row = some g → S g ∨ w.heap.size ≤ g) : Keep S w w'' := by
  refine ⟨hg.os.trans h.os, hg.tape.trans h.tape, hg.output.trans h.output, Nat.le_trans h.size hg.size, fun k hk hs => ?_⟩
  refine (hg.block k (Nat.lt_of_lt_of_le hk h.size) ?_).trans (h.block k hk hs)
  intro e
  rcases ha k e.symm with h1 | h1
  · exact hs h1
  · omega
theorem of_below (h : Below w.heap.size w w') : Keep S w w' := ⟨h.os, h.tape, h.output, h.size, fun k hk _ => h.block k hk⟩
theorem below {B : Nat} (h : Keep S w w') (hB : B ≤ w.heap.size) (hS : ∀ k, S k → B ≤ k) : Below B w w' := ⟨h.os, h.tape, h.output, h.size, fun k hk => h.block k (by omega) (fun hs => by have := hS k hs; omega)⟩
theorem row {b t n : Nat} {f : Nat → Value} (h : Keep S w w') (r : w.rowIs b t n f) (hs : ¬ S b) : w'.rowIs b t n f := r.of_block (h.block b r.lt hs)
end Keep


theorem row_drewN {w : World} {b t n : Nat} {f : Nat → Value} (h : w.rowIs b t n f) (k : Nat) : (w.drewN k).rowIs b t n f := by
  induction k with
  | zero => exact h
  | succ k ih => exact ih
theorem row_below {B : Nat} {w w' : World} {b t n : Nat} {f : Nat → Value} (r : w.rowIs b t n f) (h : Below B w w') (hlt : b < B) : w'.rowIs b t n f := r.of_block (h.block b hlt)

/-- the blocks of w whose cells are of one of these types -/
def tyS (w : World) (T : List TypeId) (k : Nat) : Prop := ∃ c t fr, w.heap[k]? = some (.cells c t fr) ∧ t ∈ T
theorem row_notin {w : World} {b t n : Nat} {f : Nat → Value} {T : List TypeId} (r : w.rowIs b t n f) (h : t ∉ T) : ¬ tyS w T b := by
  rintro ⟨c, t', fr, e, ht⟩
  obtain ⟨c0, e0, _⟩ := r
  rw [e0] at e
  cases e
  exact h ht
theorem own_in {w : World} {B e sz n : Nat} {v : Value} {xs : List Value} {T : List TypeId} (r : w.ownsRow B e sz v n xs) (h : e ∈ T) : ∀ g, v.ownBlock = some g → tyS w T g := by
  intro g hg
  rcases r.2 with ⟨rfl, _⟩ | ⟨g', cap, cur, rfl, _, hh, _⟩
  · simp [Value.ownBlock] at hg
  · simp [Value.ownBlock] at hg
    subst hg
    exact ⟨_, _, _, hh, h⟩
theorem own_notin {w : World} {B e sz n : Nat} {v : Value} {xs : List Value} {T : List TypeId} (r : w.ownsRow B e sz v n xs) (h : e ∉ T) : ∀ g, v.ownBlock = some g → ¬ tyS w T g := by
  rintro g hg ⟨c, t', fr, e', ht⟩
  rcases r.2 with ⟨rfl, _⟩ | ⟨g', cap, cur, rfl, _, hh, _⟩
  · simp [Value.ownBlock] at hg
  · simp [Value.ownBlock] at hg
    subst hg
    rw [hh] at e'
    cases e'
    exact h ht
theorem own_keep {S : Nat → Prop} {w w' : World} {B e sz n : Nat} {v : Value} {xs : List Value} (h : Keep S w w') (r : w.ownsRow B e sz v n xs) (hs : ∀ g, v.ownBlock = some g → ¬ S g) : w'.ownsRow B e sz v n xs := by
  refine ⟨r.1, ?_⟩
  rcases r.2 with hn | ⟨g, cap, cur, rfl, hb, hgg, rest⟩
  · exact .inl hn
  · refine .inr ⟨g, cap, cur, rfl, hb, ?_, rest⟩
    rw [h.block g (Array.getElem?_eq_some_iff.1 hgg).1 (hs g rfl)]
    exact hgg
theorem own_form {w : World} {B e sz n : Nat} {v : Value} {xs : List Value} (r : w.ownsRow B e sz v n xs) : ∃ a c, v = .slice a n c ∧ n ≤ maxLen ∧ (a = none → n = 0 ∧ c = 0) ∧ ∀ x, a = some x → ∃ g, x = ⟨g, 0, none⟩ ∧ B ≤ g ∧ g < w.heap.size := by
  rcases r.2 with ⟨rfl, rfl⟩ | ⟨g, cap, cur, rfl, hb, hgg, h1, h2, _⟩
  · exact ⟨none, 0, rfl, Nat.zero_le _, fun _ => ⟨rfl, rfl⟩, fun _ h => by cases h⟩
  · exact ⟨_, _, rfl, Nat.le_trans h1 h2, fun h => (by cases h), fun x hx => ⟨g, by cases hx; rfl, hb, (Array.getElem?_eq_some_iff.1 hgg).1⟩⟩
theorem own_cell {w : World} {B e sz n c : Nat} {a : Option Addr} {xs : List Value} (r : w.ownsRow B e sz (.slice a n c) n xs) {j : Nat} (hj : j < n * sz) :
    ∃ g, a = some ⟨g, 0, none⟩ ∧ B ≤ g ∧ g < w.heap.size ∧ n ≤ c ∧ w.cell? ⟨g, j, none⟩ = xs[j]? ∧ w.frozen? ⟨g, j, none⟩ = false := by
  rcases r.2 with ⟨_, rfl⟩ | ⟨g, cap, cur, hv, hb, hgg, hnc, _⟩
  · simp at hj
  · cases hv
    exact ⟨g, rfl, hb, (Array.getElem?_eq_some_iff.1 hgg).1, hnc, r.cellAt j hj, r.frozenAt j⟩

/-- A SLICE OF SLICES, ITS OWN AND APART. -/
structure Nest {α : Type} (E : List α → List Value) (to ti sz B : Nat) (w : World) (v : Value) (rows : List (List α)) (V : Nat → Value) : Prop where
  outer : w.ownsRow B to 1 v rows.length ((List.range rows.length).map V)
  inner : ∀ i, i < rows.length → w.ownsRow B ti sz (V i) (rows[i]?.getD []).length (E (rows[i]?.getD []))
  apart : ∀ i j, i < rows.length → j < rows.length → i ≠ j → ∀ g, (V i).ownBlock = some g → (V j).ownBlock ≠ some g

namespace Nest
variable {α : Type} {E : List α → List Value} {to ti sz B : Nat} {w w' : World} {v : Value} {rows : List (List α)} {V : Nat → Value} {a : Option Addr} {c ob : Nat}

theorem keep {S : Nat → Prop} (N : Nest E to ti sz B w v rows V) (h : Keep S w w') (hs : ∀ k c t fr, w.heap[k]? = some (.cells c t fr) → t = to ∨ t = ti → ¬ S k) : Nest E to ti sz B w' v rows V := by
  refine ⟨own_keep h N.outer ?_, fun i hi => own_keep h (N.inner i hi) ?_, N.apart⟩
  · intro g hg
    obtain ⟨c, t, fr, e, ht⟩ := own_in (T := [to]) N.outer (by simp) g hg
    exact hs g c t fr e (Or.inl (by simpa using ht))
  · intro g hg
    obtain ⟨c, t, fr, e, ht⟩ := own_in (T := [ti]) (N.inner i hi) (by simp) g hg
    exact hs g c t fr e (Or.inr (by simpa using ht))
theorem alloc (N : Nest E to ti sz B w v rows V) (o : Obj) : Nest E to ti sz B (w.alloc o) v rows V := N.keep ((Keep.refl (fun _ => False) w).alloc o) (fun _ _ _ _ _ _ h => h)
theorem drewN (N : Nest E to ti sz B w v rows V) (n : Nat) : Nest E to ti sz B (w.drewN n) v rows V := N.keep ((Keep.refl (fun _ => False) w).drewN n) (fun _ _ _ _ _ _ h => h)
theorem below (N : Nest E to ti sz B w v rows V) (h : Below w.heap.size w w') : Nest E to ti sz B w' v rows V := N.keep (S := fun _ => False) (Keep.of_below h) (fun _ _ _ _ _ _ h => h)

theorem cell (N : Nest E to ti sz B w (.slice a rows.length c) rows V) {i : Nat} (hi : i < rows.length) :
    ∃ g, a = some ⟨g, 0, none⟩ ∧ B ≤ g ∧ g < w.heap.size ∧ rows.length ≤ c ∧ w.cell? ⟨g, i, none⟩ = some (V i) ∧ w.frozen? ⟨g, i, none⟩ = false := by
  obtain ⟨g, h1, h2, h3, h4, h5, h6⟩ := own_cell N.outer (j := i) (by omega)
  refine ⟨g, h1, h2, h3, h4, ?_, h6⟩
  rw [h5, List.getElem?_map, List.getElem?_range hi]
  rfl

/-- 'rows[p] = append(rows[p], x)' -/
theorem pushed (N : Nest E to ti sz B w (.slice (some ⟨ob, 0, none⟩) rows.length c) rows V) (hne : to ≠ ti) {p : Nat} (hp : p < rows.length) {x : α} {v' : Value}
    (ho : w'.ownsRow B ti sz v' ((rows[p]?.getD []).length + 1) (E (rows[p]?.getD [] ++ [x]))) (hg : w.grownBy w' (V p).ownBlock)
    (hl : v'.ownBlock = (V p).ownBlock ∨ ∃ g, v'.ownBlock = some g ∧ w.heap.size ≤ g) :
    Nest E to ti sz B (w'.setCell ⟨ob, p, none⟩ v') (.slice (some ⟨ob, 0, none⟩) rows.length c) (rows.set p (rows[p]?.getD [] ++ [x])) (fun i => if i = p then v' else V i) := by
  have hob : ∀ g, (V p).ownBlock = some g → ob ≠ g := by
    rintro g hgb rfl
    obtain ⟨c1, t1, f1, e1, m1⟩ := own_in (T := [to]) N.outer (by simp) ob rfl
    obtain ⟨c2, t2, f2, e2, m2⟩ := own_in (T := [ti]) (N.inner p hp) (by simp) ob hgb
    rw [e1] at e2
    cases e2
    simp at m1 m2
    exact hne (m1.symm.trans m2)
  have hlt : ob < w.heap.size := (N.outer.lt ob rfl).2
  have ho' : ∀ g, v'.ownBlock = some g → ob ≠ g := by
    intro g hgb
    rcases hl with h | ⟨g', h, hge⟩
    · exact hob g (by rw [← h]; exact hgb)
    · rw [h] at hgb; cases hgb; omega
  have N1 : w'.ownsRow B to 1 (.slice (some ⟨ob, 0, none⟩) rows.length c) rows.length ((List.range rows.length).map V) := N.outer.kept hg (by
    right
    intro e
    exact hob ob e.symm rfl)
  have kept : ∀ {e sz n : Nat} {u : Value} {xs : List Value}, w'.ownsRow B e sz u n xs → (∀ g, u.ownBlock = some g → ob ≠ g) → (w'.setCell ⟨ob, p, none⟩ v').ownsRow B e sz u n xs := by
    intro e sz n u xs r hr
    exact own_keep (S := fun k => k = ob) ((Keep.refl (fun k => k = ob) w').setCell (a := ⟨ob, p, none⟩) (Or.inl rfl) v') r (fun g hgb => fun h => hr g hgb h.symm)
  refine ⟨?_, ?_, ?_⟩
  · have := N1.stored p v'
    rw [List.length_set]
    have e : ((List.range rows.length).map V).set p v' = (List.range rows.length).map (fun i => if i = p then v' else V i) := by
      apply List.ext_getElem?
      intro i
      simp only [List.getElem?_set, List.length_map, List.length_range, List.getElem?_map]
      by_cases h1 : p = i
      · subst h1; simp [hp]
      · have h2 : i ≠ p := fun h => h1 h.symm
        by_cases h3 : i < rows.length
        · simp [h1, h2, h3]
        · simp [h1, h3]
    rw [← e]
    exact this.1
  · intro i hi
    rw [List.length_set] at hi
    by_cases h1 : i = p
    · subst h1
      rw [if_pos rfl]
      have : (rows.set i (rows[i]?.getD [] ++ [x]))[i]?.getD [] = rows[i]?.getD [] ++ [x] := by simp [hi]
      rw [this, List.length_append]
      exact kept ho ho'
    · simp only [if_neg h1]
      have : (rows.set p (rows[p]?.getD [] ++ [x]))[i]?.getD [] = rows[i]?.getD [] := by rw [List.getElem?_set_ne (fun h => h1 h.symm)]
      rw [this]
      refine kept ((N.inner i hi).kept hg ?_) ?_
      · cases hb : (V i).ownBlock with
        | none => exact Or.inl rfl
        | some g => exact Or.inr fun e => N.apart i p hi hp h1 g hb e.symm
      · rintro g hgb rfl
        obtain ⟨c1, t1, f1, e1, m1⟩ := own_in (T := [to]) N.outer (by simp) ob rfl
        obtain ⟨c2, t2, f2, e2, m2⟩ := own_in (T := [ti]) (N.inner i hi) (by simp) ob hgb
        rw [e1] at e2
        cases e2
        simp at m1 m2
        exact hne (m1.symm.trans m2)
  · intro i j hi hj hij g hgi hgj
    rw [List.length_set] at hi hj
    have old : ∀ k, k < rows.length → k ≠ p → ∀ g, v'.ownBlock = some g → (V k).ownBlock ≠ some g := by
      intro k hk hkp g h1 h2
      rcases hl with h | ⟨g', h, hge⟩
      · exact N.apart k p hk hp hkp g h2 (by rw [← h]; exact h1)
      · have := ((N.inner k hk).lt g h2).2
        rw [h] at h1; cases h1; omega
    by_cases h1 : i = p
    · subst h1
      rw [if_pos rfl] at hgi
      rw [if_neg (fun h => hij h.symm)] at hgj
      exact old j hj (fun h => hij h.symm) g hgi hgj
    · rw [if_neg h1] at hgi
      by_cases h2 : j = p
      · subst h2
        rw [if_pos rfl] at hgj
        exact old i hi h1 g hgj hgi
      · rw [if_neg h2] at hgj
        exact N.apart i j hi hj hij g hgi hgj

/-- 'rows = append(rows, nil)' -/
theorem grew (N : Nest E to ti sz B w v rows V) (hne : to ≠ ti) {v' : Value} (hE : E [] = []) (ho : w'.ownsRow B to 1 v' (rows.length + 1) ((List.range rows.length).map V ++ [.slice none 0 0])) (hg : w.grownBy w' v.ownBlock) :
    Nest E to ti sz B w' v' (rows ++ [[]]) (fun i => if i < rows.length then V i else .slice none 0 0) := by
  refine ⟨?_, ?_, ?_⟩
  · have e : (List.range (rows ++ [[]]).length).map (fun i => if i < rows.length then V i else .slice none 0 0) = (List.range rows.length).map V ++ [.slice none 0 0] := by
      rw [List.length_append, List.length_singleton, List.range_succ, List.map_append]
      congr 1
      · apply List.map_congr_left
        intro i hi
        rw [if_pos (List.mem_range.1 hi)]
      · simp
    rw [e, List.length_append]
    exact ho
  · intro i hi
    rw [List.length_append, List.length_singleton] at hi
    by_cases h1 : i < rows.length
    · simp only [if_pos h1]
      rw [List.getElem?_append_left h1]
      refine (N.inner i h1).kept hg ?_
      cases hb : (V i).ownBlock with
      | none => exact Or.inl rfl
      | some g =>
        right
        intro e
        obtain ⟨c1, t1, f1, e1, m1⟩ := own_in (T := [to]) N.outer (by simp) g e.symm
        obtain ⟨c2, t2, f2, e2, m2⟩ := own_in (T := [ti]) (N.inner i h1) (by simp) g hb
        rw [e1] at e2
        cases e2
        simp at m1 m2
        exact hne (m1.symm.trans m2)
    · obtain rfl : i = rows.length := by omega
      simp only [Nat.lt_irrefl, if_false]
      rw [List.getElem?_append_right (Nat.le_refl _)]
      simp [hE]
      exact World.ownsRow_nil _ _ _ _
  · intro i j hi hj hij g hgi hgj
    rw [List.length_append, List.length_singleton] at hi hj
    by_cases h1 : i < rows.length
    · rw [if_pos h1] at hgi
      by_cases h2 : j < rows.length
      · rw [if_pos h2] at hgj
        exact N.apart i j h1 h2 hij g hgi hgj
      · rw [if_neg h2] at hgj
        simp [Value.ownBlock] at hgj
    · rw [if_neg h1] at hgi
      simp [Value.ownBlock] at hgi
end Nest

end Go.Proofs.Qxb6616309aFmt
