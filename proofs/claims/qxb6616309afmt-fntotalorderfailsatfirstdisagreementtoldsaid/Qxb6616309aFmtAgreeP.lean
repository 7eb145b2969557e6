/-
  THE PLAIN PART OF 'b1Agree': positions, the last one seen.
-/
import Derived.Test.Qxb6616309aFmtPlain
namespace Go.Proofs.Qxb6616309aFmt

/-- where m stands among the first j of zs, or -1 -/
def posOf (zs : List Int) : Nat → Nat → Int
  | 0, _ => -1
  | j + 1, m => if m = (ix zs j).toNat then (j : Int) else posOf zs j m

/-- an order: small places, none twice -/
structure Ord (zs : List Int) : Prop where
  small : ∀ i, i < zs.length → ∃ m : Nat, ix zs i = (m : Int) ∧ m < 256
  once : ∀ i j, i < zs.length → j < zs.length → ix zs i = ix zs j → i = j

theorem posOf_spec {zs : List Int} (O : Ord zs) (j m : Nat) (hj : j ≤ zs.length) : -1 ≤ posOf zs j m ∧ (0 ≤ posOf zs j m → ∃ a : Nat, posOf zs j m = (a : Int) ∧ a < j ∧ ix zs a = (m : Int)) ∧ (posOf zs j m < 0 → ∀ a, a < j → ix zs a ≠ (m : Int)) := by
  induction j with
  | zero => exact ⟨by simp [posOf], fun h => by simp [posOf] at h, fun _ a ha => by omega⟩
  | succ j ih =>
    obtain ⟨h0, h1, h2⟩ := ih (by omega)
    obtain ⟨x, hx, _⟩ := O.small j (by omega)
    unfold posOf
    by_cases h : m = (ix zs j).toNat
    · rw [if_pos h]
      refine ⟨by omega, fun _ => ⟨j, rfl, by omega, ?_⟩, fun h => by omega⟩
      rw [hx] at h ⊢
      omega
    · rw [if_neg h]
      refine ⟨h0, fun h3 => ?_, fun h3 a ha => ?_⟩
      · obtain ⟨a, e1, e2, e3⟩ := h1 h3
        exact ⟨a, e1, by omega, e3⟩
      · by_cases e : a = j
        · subst e
          rw [hx] at h ⊢
          intro e
          omega
        · exact h2 h3 a (by omega)

theorem ord_small (f g : Nat → Nat) (n : Nat) (k : Nat) (hk : k ≤ 256) (q : Nat) : Ord (rowOf (ordAt f g n k) q) := by
  induction k with
  | zero =>
    have : rowOf (ordAt f g n 0) q = [] := by
      unfold rowOf ordAt
      by_cases h : q < n <;> simp [h]
    rw [this]
    exact ⟨fun i h => by simp at h, fun i j h => by simp at h⟩
  | succ k ih =>
    have ih := ih (by omega)
    have e : ordAt f g n (k + 1) = ordStep (ordAt f g n k) (f k) (plOf g k) := rfl
    rw [e]
    unfold ordStep
    split
    · exact ih
    · rename_i hm
      by_cases hq : f k < (ordAt f g n k).length
      · rw [rowOf_set _ _ _ _ hq]
        split
        · rename_i h
          subst h
          have hpl := (plOf_lt g k).1
          have hnx := (plAt_range g (k + 1)).2
          have hno : ∀ i, i < (rowOf (ordAt f g n k) (f k)).length → ix (rowOf (ordAt f g n k) (f k)) i ≠ (plOf g k : Int) := fun i hi e => hm (mem_ix.2 ⟨i, hi, e⟩)
          refine ⟨fun i hi => ?_, fun i j hi hj hij => ?_⟩
          · rw [List.length_append, List.length_singleton] at hi
            by_cases h : i < (rowOf (ordAt f g n k) (f k)).length
            · rw [ix_app _ _ _ h]; exact ih.small i h
            · obtain rfl : i = (rowOf (ordAt f g n k) (f k)).length := by omega
              rw [ix_new]
              exact ⟨_, rfl, by omega⟩
          · rw [List.length_append, List.length_singleton] at hi hj
            by_cases h : i < (rowOf (ordAt f g n k) (f k)).length
            · rw [ix_app _ _ _ h] at hij
              by_cases h' : j < (rowOf (ordAt f g n k) (f k)).length
              · rw [ix_app _ _ _ h'] at hij
                exact ih.once i j h h' hij
              · obtain rfl : j = (rowOf (ordAt f g n k) (f k)).length := by omega
                rw [ix_new] at hij
                exact absurd hij (hno i h)
            · obtain rfl : i = (rowOf (ordAt f g n k) (f k)).length := by omega
              rw [ix_new] at hij
              by_cases h' : j < (rowOf (ordAt f g n k) (f k)).length
              · rw [ix_app _ _ _ h'] at hij
                exact absurd hij.symm (hno j h')
              · omega
        · exact ih
      · rw [List.set_eq_of_length_le (by omega)]
        exact ih

/-- the first j of p's order lie rising in q's -/
def PairTo (os : List (List Int)) (p q j : Nat) : Prop := ∀ i i' a b, i < i' → i' < j → a < lenOf os q → b < lenOf os q → ix (rowOf os q) a = ix (rowOf os p) i → ix (rowOf os q) b = ix (rowOf os p) i' → a ≤ b

structure LastOk (os : List (List Int)) (p q j : Nat) (L : Int) : Prop where
  low : -1 ≤ L
  most : ∀ i a : Nat, i < j → a < lenOf os q → ix (rowOf os q) a = ix (rowOf os p) i → (a : Int) ≤ L
  seen : 0 ≤ L → ∃ i a : Nat, i < j ∧ a < lenOf os q ∧ ix (rowOf os q) a = ix (rowOf os p) i ∧ (a : Int) = L
  pair : PairTo os p q j

theorem LastOk.start (os : List (List Int)) (p q : Nat) : LastOk os p q 0 (-1) := ⟨by omega, fun i a h => by omega, fun h => by omega, fun i i' a b h h2 => by omega⟩
/-- where the j-th of p's order stands in q's -/
def atOf (os : List (List Int)) (p q j : Nat) : Int := posOf (rowOf os q) (lenOf os q) (ix (rowOf os p) j).toNat
theorem atOf_spec {os : List (List Int)} {p q j : Nat} (Op : Ord (rowOf os p)) (Oq : Ord (rowOf os q)) (hj : j < lenOf os p) : -1 ≤ atOf os p q j ∧ (0 ≤ atOf os p q j → ∃ a : Nat, atOf os p q j = (a : Int) ∧ a < lenOf os q ∧ ix (rowOf os q) a = ix (rowOf os p) j) ∧ (atOf os p q j < 0 → ∀ a, a < lenOf os q → ix (rowOf os q) a ≠ ix (rowOf os p) j) := by
  obtain ⟨m, hm, _⟩ := Op.small j hj
  have := posOf_spec Oq (lenOf os q) m (Nat.le_refl _)
  unfold atOf
  rw [hm, Int.toNat_natCast]
  exact this
theorem LastOk.skip {os : List (List Int)} {p q j : Nat} {L : Int} (H : LastOk os p q j L) (Op : Ord (rowOf os p)) (Oq : Ord (rowOf os q)) (hj : j < lenOf os p) (h : atOf os p q j < 0) : LastOk os p q (j + 1) L := by
  have no := (atOf_spec Op Oq hj).2.2 h
  refine ⟨H.low, fun i a hi ha e => ?_, fun hL => ?_, fun i i' a b h1 h2 ha hb ea eb => ?_⟩
  · by_cases hij : i = j
    · subst hij; exact absurd e (no a ha)
    · exact H.most i a (by omega) ha e
  · obtain ⟨i, a, h1, h2⟩ := H.seen hL
    exact ⟨i, a, by omega, h2⟩
  · by_cases hij : i' = j
    · subst hij; exact absurd eb (no b hb)
    · exact H.pair i i' a b h1 (by omega) ha hb ea eb
theorem LastOk.take {os : List (List Int)} {p q j : Nat} {L : Int} (H : LastOk os p q j L) (Op : Ord (rowOf os p)) (Oq : Ord (rowOf os q)) (hj : j < lenOf os p) (h : 0 ≤ atOf os p q j) (h2 : ¬ atOf os p q j < L) : LastOk os p q (j + 1) (atOf os p q j) := by
  obtain ⟨x, hx, hxl, hxe⟩ := (atOf_spec Op Oq hj).2.1 h
  have one : ∀ a, a < lenOf os q → ix (rowOf os q) a = ix (rowOf os p) j → a = x := fun a ha e => Oq.once a x ha hxl (e.trans hxe.symm)
  refine ⟨by omega, fun i a hi ha e => ?_, fun _ => ⟨j, x, by omega, hxl, hxe, hx.symm⟩, fun i i' a b h1 h3 ha hb ea eb => ?_⟩
  · by_cases hij : i = j
    · subst hij; have := one a ha e; omega
    · have := H.most i a (by omega) ha e; omega
  · by_cases hij : i' = j
    · subst hij
      have e1 := one b hb eb
      have e2 := H.most i a h1 ha ea
      omega
    · exact H.pair i i' a b h1 (by omega) ha hb ea eb
theorem LastOk.bad {n : Nat} {os : List (List Int)} {p q j : Nat} {L : Int} (H : LastOk os p q j L) (Op : Ord (rowOf os p)) (Oq : Ord (rowOf os q)) (hj : j < lenOf os p) (h : 0 ≤ atOf os p q j) (h2 : atOf os p q j < L) (hpq : p < q) (hq : q < n) : ¬ AgreeP n os := by
  intro A
  obtain ⟨x, hx, hxl, hxe⟩ := (atOf_spec Op Oq hj).2.1 h
  obtain ⟨i, a, h1, h3, h4, h5⟩ := H.seen (by omega)
  have := A p q hpq hq i j a x h1 hj h3 hxl h4 hxe
  omega
end Go.Proofs.Qxb6616309aFmt
