/-
  THE PLAIN LAWS of seat b6618271a: ascending lists of numbers, the place of a number in one, and the subset of words. No Go in sight but the one operation '&^' on 64 bits ('bits .andNot .u64').
-/
import Derived.Laws.BitsAllLaws
namespace Go.Proofs.Qxb6618271a

/-- The numbers ascend strictly. -/
def Asc (ts : List Int) : Prop := ∀ i j, i < j → j < ts.length → ts[i]?.getD 0 < ts[j]?.getD 0

/-- p is the place of the first number that is at least x. -/
def Sk (ts : List Int) (x : Int) (p : Nat) : Prop := p ≤ ts.length ∧ (∀ j, j < p → ts[j]?.getD 0 < x) ∧ (p < ts.length → x ≤ ts[p]?.getD 0)

/-- s &^ t is nothing: the bits of t cover those of s. -/
def Cov (s t : Int) : Prop := bits .andNot .u64 s t = 0

/-- Every word of S (places A, bits B) meets a word of T (places C, bits D) at the same place whose bits cover its own. -/
def Sub (A B C D : List Int) : Prop := ∀ i, i < A.length → ∃ j, j < C.length ∧ C[j]?.getD 0 = A[i]?.getD 0 ∧ Cov (B[i]?.getD 0) (D[j]?.getD 0)

theorem asc_of_steps {ts : List Int} (h : ∀ i, 0 < i → i < ts.length → ts[i - 1]?.getD 0 < ts[i]?.getD 0) : Asc ts := by
  intro i j hij hj
  induction j with
  | zero => omega
  | succ j ih =>
    have h1 := h (j + 1) (by omega) hj
    simp only [Nat.add_sub_cancel] at h1
    by_cases e : i = j
    · subst e; exact h1
    · have := ih (by omega) (by omega); omega

theorem asc_below {ts : List Int} (ha : Asc ts) {x : Int} {h : Nat} (hh : h < ts.length) (hx : ts[h]?.getD 0 < x) : ∀ j, j < h + 1 → ts[j]?.getD 0 < x := by
  intro j hj
  by_cases e : j = h
  · subst e; exact hx
  · have := ha j h (by omega) hh; omega

/-- One word: whether T has a word for it is asked at the place that 'seek' finds. -/
theorem sub_at {C : List Int} (ha : Asc C) {x : Int} {p : Nat} (hp : Sk C x p) (P : Nat → Prop) : (∃ j, j < C.length ∧ C[j]?.getD 0 = x ∧ P j) ↔ (p < C.length ∧ C[p]?.getD 0 = x ∧ P p) := by
  obtain ⟨h1, h2, h3⟩ := hp
  constructor
  · rintro ⟨j, hj, e, hP⟩
    have hpj : p = j := by
      rcases Nat.lt_trichotomy p j with h | h | h
      · have := h3 (by omega); have := ha p j h hj; omega
      · exact h
      · have := h2 j h; omega
    subst hpj; exact ⟨hj, e, hP⟩
  · rintro ⟨a, b, c⟩; exact ⟨p, a, b, c⟩

/-- What the loops over the words of S know behind k of them. -/
def SubTo (A B C D : List Int) (k : Nat) : Prop := ∀ i, i < k → ∃ j, j < C.length ∧ C[j]?.getD 0 = A[i]?.getD 0 ∧ Cov (B[i]?.getD 0) (D[j]?.getD 0)

theorem subTo_zero (A B C D : List Int) : SubTo A B C D 0 := fun i h => by omega
theorem subTo_succ {A B C D : List Int} {k p : Nat} (h : SubTo A B C D k) (hp : p < C.length) (e : C[p]?.getD 0 = A[k]?.getD 0) (c : Cov (B[k]?.getD 0) (D[p]?.getD 0)) : SubTo A B C D (k + 1) := by
  intro i hi
  by_cases hk : i = k
  · subst hk; exact ⟨p, hp, e, c⟩
  · exact h i (by omega)
theorem sub_of_to {A B C D : List Int} {k : Nat} (h : SubTo A B C D k) (hk : A.length ≤ k) : Sub A B C D := fun i hi => h i (by omega)
theorem not_sub {A B C D : List Int} (ha : Asc C) {k p : Nat} (hk : k < A.length) (hp : Sk C (A[k]?.getD 0) p) (hn : ¬ (p < C.length ∧ C[p]?.getD 0 = A[k]?.getD 0 ∧ Cov (B[k]?.getD 0) (D[p]?.getD 0))) : ¬ Sub A B C D := by
  intro hs
  exact hn ((sub_at ha hp (fun j => Cov (B[k]?.getD 0) (D[j]?.getD 0))).1 (hs k hk))

/-- The seek's place for one word lies ahead of the next word too. -/
theorem ahead_next {A C : List Int} (ha : Asc A) {k p : Nat} (hp : ∀ j, j < p → C[j]?.getD 0 < A[k]?.getD 0) (hk : k + 1 < A.length) : ∀ j, j < p → C[j]?.getD 0 < A[k + 1]?.getD 0 := by
  intro j hj
  have := hp j hj; have := ha k (k + 1) (by omega) hk; omega

theorem cov_self {a : Int} (h0 : 0 ≤ a) (h1 : a < 18446744073709551616) : Cov a a := by
  unfold Cov
  rw [u64_andNot a a h0 h1 h0 h1]
  have : a.toNat &&& (18446744073709551615 - a.toNat) = 0 := by
    apply Nat.eq_of_testBit_eq
    intro i
    rw [Nat.testBit_and, show 18446744073709551615 - a.toNat = 2 ^ 64 - (a.toNat + 1) from by omega, Nat.testBit_two_pow_sub_succ (by omega)]
    simp only [Nat.zero_testBit]
    cases a.toNat.testBit i <;> simp
  rw [this]; rfl

theorem cov_testBit {a b : Int} (h0 : 0 ≤ a) (h1 : a < 18446744073709551616) (g0 : 0 ≤ b) (g1 : b < 18446744073709551616) (h : Cov a b) (i : Nat) (hi : a.toNat.testBit i = true) : b.toNat.testBit i = true := by
  unfold Cov at h
  rw [u64_andNot a b h0 h1 g0 g1] at h
  have e : a.toNat &&& (18446744073709551615 - b.toNat) = 0 := by omega
  have e2 := congrArg (fun n => Nat.testBit n i) e
  simp only [Nat.testBit_and, Nat.zero_testBit] at e2
  rw [show 18446744073709551615 - b.toNat = 2 ^ 64 - (b.toNat + 1) from by omega, Nat.testBit_two_pow_sub_succ (by omega), hi] at e2
  have hlt : i < 64 := by
    rcases Nat.lt_or_ge i 64 with h | h
    · exact h
    · rw [Nat.testBit_lt_two_pow (Nat.lt_of_lt_of_le (show a.toNat < 2 ^ 64 by omega) (Nat.pow_le_pow_right (by omega) h))] at hi; cases hi
  simpa [hlt] using e2

theorem cov_antisymm {a b : Int} (h0 : 0 ≤ a) (h1 : a < 18446744073709551616) (g0 : 0 ≤ b) (g1 : b < 18446744073709551616) (h : Cov a b) (k : Cov b a) : a = b := by
  have : a.toNat = b.toNat := by
    apply Nat.eq_of_testBit_eq
    intro i
    cases ha : a.toNat.testBit i <;> cases hb : b.toNat.testBit i <;> try rfl
    · rw [cov_testBit g0 g1 h0 h1 k i hb] at ha; cases ha
    · rw [cov_testBit h0 h1 g0 g1 h i ha] at hb; cases hb
  omega

/-- Every number of the list is a uint64. -/
def U64s (B : List Int) : Prop := ∀ i, i < B.length → 0 ≤ B[i]?.getD 0 ∧ B[i]?.getD 0 < 18446744073709551616

theorem sub_self {A B : List Int} (hb : U64s B) (hl : A.length = B.length) : Sub A B A B :=
  fun i hi => ⟨i, hi, rfl, cov_self (hb i (by omega)).1 (hb i (by omega)).2⟩

/-- A prefix lies within the whole. -/
theorem sub_prefix {A B C D : List Int} (hb : U64s B) (hl : A.length = B.length) (hle : A.length ≤ C.length) (ha : ∀ i, i < A.length → C[i]?.getD 0 = A[i]?.getD 0) (hd : ∀ i, i < A.length → D[i]?.getD 0 = B[i]?.getD 0) : Sub A B C D :=
  fun i hi => ⟨i, by omega, ha i hi, by rw [hd i hi]; exact cov_self (hb i (by omega)).1 (hb i (by omega)).2⟩

/-- Two ascending lists each of whose numbers lies in the other: the k-th numbers are one. -/
theorem asc_eq {A C : List Int} (ha : Asc A) (hc : Asc C) (h1 : ∀ i, i < A.length → ∃ j, j < C.length ∧ C[j]?.getD 0 = A[i]?.getD 0) (h2 : ∀ i, i < C.length → ∃ j, j < A.length ∧ A[j]?.getD 0 = C[i]?.getD 0) (k : Nat) :
    (k < A.length → k < C.length ∧ C[k]?.getD 0 = A[k]?.getD 0) ∧ (k < C.length → k < A.length ∧ C[k]?.getD 0 = A[k]?.getD 0) := by
  induction k using Nat.strongRecOn with
  | ind k ih =>
    have key1 : k < A.length → ∃ j, k ≤ j ∧ j < C.length ∧ C[j]?.getD 0 = A[k]?.getD 0 := by
      intro hk
      obtain ⟨j, hj, e⟩ := h1 k hk
      refine ⟨j, ?_, hj, e⟩
      rcases Nat.lt_or_ge j k with h | h
      · have := ((ih j h).2 hj).2; have := ha j k h hk; omega
      · exact h
    have key2 : k < C.length → ∃ j, k ≤ j ∧ j < A.length ∧ A[j]?.getD 0 = C[k]?.getD 0 := by
      intro hk
      obtain ⟨j, hj, e⟩ := h2 k hk
      refine ⟨j, ?_, hj, e⟩
      rcases Nat.lt_or_ge j k with h | h
      · have := ((ih j h).1 hj).2; have := hc j k h hk; omega
      · exact h
    have le_of : ∀ {L : List Int} (_ : Asc L) {a b : Nat}, a ≤ b → b < L.length → L[a]?.getD 0 ≤ L[b]?.getD 0 := by
      intro L hL a b hab hb
      rcases Nat.lt_or_eq_of_le hab with h | h
      · exact Int.le_of_lt (hL a b h hb)
      · subst h; exact Int.le_refl _
    have both : k < A.length → k < C.length → C[k]?.getD 0 = A[k]?.getD 0 := by
      intro hka hkc
      obtain ⟨j, hj1, hj2, e⟩ := key1 hka
      obtain ⟨i, hi1, hi2, f⟩ := key2 hkc
      have := le_of hc hj1 hj2; have := le_of ha hi1 hi2; omega
    refine ⟨fun hk => ?_, fun hk => ?_⟩
    · obtain ⟨j, hj1, hj2, e⟩ := key1 hk
      exact ⟨by omega, both hk (by omega)⟩
    · obtain ⟨j, hj1, hj2, e⟩ := key2 hk
      exact ⟨by omega, both (by omega) hk⟩

/-- The two word lists are equal, element by element. -/
def Same (A B C D : List Int) : Prop := A.length = C.length ∧ ∀ i, i < A.length → A[i]?.getD 0 = C[i]?.getD 0 ∧ B[i]?.getD 0 = D[i]?.getD 0

theorem both_iff_same {A B C D : List Int} (ha : Asc A) (hc : Asc C) (hb : U64s B) (hd : U64s D) (hl : A.length = B.length) (hm : C.length = D.length) : (Sub A B C D ∧ Sub C D A B) ↔ Same A B C D := by
  constructor
  · rintro ⟨h1, h2⟩
    have E := asc_eq ha hc (fun i hi => by obtain ⟨j, a, b, _⟩ := h1 i hi; exact ⟨j, a, b⟩) (fun i hi => by obtain ⟨j, a, b, _⟩ := h2 i hi; exact ⟨j, a, b⟩)
    have hlen : A.length = C.length := by
      rcases Nat.lt_trichotomy A.length C.length with h | h | h
      · have := ((E A.length).2 h).1; omega
      · exact h
      · have := ((E C.length).1 h).1; omega
    refine ⟨hlen, fun i hi => ?_⟩
    have e := ((E i).1 hi).2
    refine ⟨e.symm, ?_⟩
    have uniq : ∀ {L : List Int} (_ : Asc L) {a b : Nat}, a < L.length → b < L.length → L[a]?.getD 0 = L[b]?.getD 0 → a = b := by
      intro L hL a b ha' hb' e'
      rcases Nat.lt_trichotomy a b with h | h | h
      · have := hL a b h hb'; omega
      · exact h
      · have := hL b a h ha'; omega
    obtain ⟨j, hj, ej, cj⟩ := h1 i hi
    obtain rfl : j = i := uniq hc hj (by omega) (by omega)
    obtain ⟨j', hj', ej', cj'⟩ := h2 j hj
    obtain rfl : j' = j := uniq ha hj' (by omega) (by omega)
    exact cov_antisymm (hb _ (by omega)).1 (hb _ (by omega)).2 (hd _ (by omega)).1 (hd _ (by omega)).2 cj cj'
  · rintro ⟨hlen, h⟩
    exact ⟨sub_prefix hb hl (by omega) (fun i hi => (h i hi).1.symm) (fun i hi => (h i hi).2.symm), sub_prefix hd hm (by omega) (fun i hi => (h i (by omega)).1) (fun i hi => (h i (by omega)).2)⟩

end Go.Proofs.Qxb6618271a
