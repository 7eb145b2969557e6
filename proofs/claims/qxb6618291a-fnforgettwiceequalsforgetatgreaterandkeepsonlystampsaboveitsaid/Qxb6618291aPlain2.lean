/-
  THE PLAIN LAWS, MORE: what the record keeps: how many of the first i are kept; the stamp read at a key.
-/
import Derived.Test.Qxb6618291aPlain
import Derived.Laws.Cover1
namespace Go.Proofs.Qxb6618291a

/-! ### the order of bounds -/
def ltB (a b : ByteArray) : Bool := Op.bytesLess a.toList b.toList
def leB (a b : ByteArray) : Bool := Op.bytesLess a.toList b.toList || a.toList == b.toList

theorem bytesLess_dec : ∀ (x y : List UInt8), Op.bytesLess x y = decide (x < y)
  | [], [] => by simp [Op.bytesLess]
  | _ :: _, [] => by simp [Op.bytesLess]
  | [], _ :: _ => by simp [Op.bytesLess]
  | a :: x, b :: y => by
    rw [Op.bytesLess, bytesLess_dec x y]
    simp only [List.cons_lt_cons_iff]
    by_cases h1 : a < b <;> by_cases h2 : a = b <;> by_cases h3 : x < y <;> simp [h1, h2, h3]

theorem ltB_irrefl (a : ByteArray) : ltB a a = false := by
  unfold ltB; rw [bytesLess_dec]; simp [List.lt_irrefl]
theorem ltB_trans {a b c : ByteArray} (h : ltB a b = true) (k : ltB b c = true) : ltB a c = true := by
  unfold ltB at *; rw [bytesLess_dec, decide_eq_true_eq] at *; exact List.lt_trans h k
theorem lt_leB {a b c : ByteArray} (h : ltB a b = true) (k : leB b c = true) : leB a c = true := by
  unfold leB at *
  rw [Bool.or_eq_true] at k ⊢
  rcases k with k | k
  · exact Or.inl (ltB_trans h k)
  · rw [beq_iff_eq] at k; rw [← k]; exact Or.inl h

/-- The bounds ascend strictly. -/
def Up (L : List Rng) : Prop := L.Pairwise fun p q => ltB p.1 q.1 = true

theorem up_of_steps {L : List Rng} (h : ∀ i, 0 < i → i < L.length → ltB (L[i - 1]?.getD dP).1 (L[i]?.getD dP).1 = true) : Up L := by
  unfold Up
  rw [List.pairwise_iff_getElem]
  intro i j hi hj hij
  induction j with
  | zero => omega
  | succ j ih =>
    have hs := h (j + 1) (by omega) hj
    have hj' : j < L.length := by omega
    simp only [Nat.add_sub_cancel, List.getElem?_eq_getElem hj, List.getElem?_eq_getElem hj', Option.getD_some] at hs
    by_cases e : i = j
    · subst e; exact hs
    · exact ltB_trans (ih hj' (by omega)) hs

theorem up_inj {L : List Rng} (h : Up L) {i j : Nat} (hi : i < L.length) (hj : j < L.length) (e : (L[i]?.getD dP).1 = (L[j]?.getD dP).1) : i = j := by
  simp only [List.getElem?_eq_getElem hi, List.getElem?_eq_getElem hj, Option.getD_some] at e
  unfold Up at h
  rw [List.pairwise_iff_getElem] at h
  rcases Nat.lt_trichotomy i j with hl | hl | hl
  · have := h i j hi hj hl; rw [e, ltB_irrefl] at this; cases this
  · exact hl
  · have := h j i hj hi hl; rw [e, ltB_irrefl] at this; cases this

theorem up_cut {L : List Rng} (h : Up L) (m : Int) : Up (cutL m L) := by
  unfold Up cutL
  rw [List.pairwise_map]
  exact h

theorem cmpF_sub (a : Int) (M : List Rng) : (cmpF a M).Sublist M := by
  induction M generalizing a with
  | nil => exact List.Sublist.refl _
  | cons p t ih =>
    by_cases h : p.2 = a
    · rw [cmpF_eq h]; exact (ih a).cons _
    · rw [cmpF_ne h]; exact (ih p.2).cons_cons _

theorem up_cmpF {M : List Rng} (h : Up M) (a : Int) : Up (cmpF a M) := h.sublist (cmpF_sub a M)

/-! ### the stamp at a key -/
/-- as 'stampAt' reads it: from the end. -/
def sAt (L : List Rng) (key : ByteArray) : Nat → Int
  | 0 => 0
  | j + 1 => if leB (L[j]?.getD dP).1 key = true then (L[j]?.getD dP).2 else sAt L key j

/-- from the front. -/
def stA (key : ByteArray) (a : Int) : List Rng → Int
  | [] => a
  | p :: t => if leB p.1 key = true then stA key p.2 t else a

theorem stA_snoc {M : List Rng} {x : Rng} (key : ByteArray) (a : Int) (h : Up (M ++ [x])) : stA key a (M ++ [x]) = if leB x.1 key = true then x.2 else stA key a M := by
  induction M generalizing a with
  | nil => rfl
  | cons p t ih =>
    rw [List.cons_append] at h ⊢
    have h1 := List.rel_of_pairwise_cons h (a' := x) (by simp)
    rw [stA, ih p.2 (List.Pairwise.of_cons h)]
    by_cases hx : leB x.1 key = true
    · rw [if_pos hx, if_pos hx, if_pos (lt_leB h1 hx)]
    · rw [if_neg hx, if_neg hx, stA]

theorem sAt_congr {L K : List Rng} (key : ByteArray) {n : Nat} (h : ∀ i, i < n → L[i]? = K[i]?) : sAt L key n = sAt K key n := by
  induction n with
  | zero => rfl
  | succ n ih => rw [sAt, sAt, h n (by omega), ih (fun i hi => h i (by omega))]

theorem sAt_stA (key : ByteArray) (L : List Rng) (h : Up L) : sAt L key L.length = stA key 0 L := by
  have gen : ∀ k, k ≤ L.length → sAt L key k = stA key 0 (L.take k) := by
    intro k hk
    induction k with
    | zero => rfl
    | succ k ih =>
      have hu : Up (L.take k ++ [L[k]?.getD dP]) := by rw [← take_snoc (by omega)]; exact h.sublist (List.take_sublist _ _)
      rw [sAt, ih (by omega), take_snoc (by omega), stA_snoc key 0 hu]
  rw [gen L.length (Nat.le_refl _), List.take_length]

theorem stA_stop {M : List Rng} (key : ByteArray) (a : Int) (h : ∀ q ∈ M, leB q.1 key = false) : stA key a M = a := by
  cases M with
  | nil => rfl
  | cons p t => rw [stA, if_neg (by rw [h p (by simp)]; simp)]

theorem stA_cmpF {M : List Rng} (key : ByteArray) (a : Int) (h : Up M) : stA key a (cmpF a M) = stA key a M := by
  induction M generalizing a with
  | nil => rfl
  | cons p t ih =>
    have ht := List.Pairwise.of_cons h
    by_cases e : p.2 = a
    · rw [cmpF_eq e, ih a ht, stA]
      by_cases hp : leB p.1 key = true
      · rw [if_pos hp, e]
      · rw [if_neg hp]
        apply stA_stop
        intro q hq
        have hl := List.rel_of_pairwise_cons h hq
        cases hq' : leB q.1 key with
        | false => rfl
        | true => exact absurd (lt_leB hl hq') hp
    · rw [cmpF_ne e, stA, stA, ih p.2 ht]

theorem stA_cut (key : ByteArray) (m a : Int) (L : List Rng) : stA key (cutS m a) (cutL m L) = cutS m (stA key a L) := by
  induction L generalizing a with
  | nil => rfl
  | cons p t ih =>
    have e : cutL m (p :: t) = (p.1, cutS m p.2) :: cutL m t := rfl
    rw [e, stA, stA]
    by_cases hp : leB p.1 key = true
    · rw [if_pos hp, if_pos hp]; exact ih p.2
    · rw [if_neg hp, if_neg hp]

/-- THE STAMP READ AT A KEY is the input's if it exceeds m, else 0. -/
theorem sAt_forget {L : List Rng} (h : Up L) {m : Int} (h0 : 0 ≤ m) (key : ByteArray) : sAt (forgetL m L) key (forgetL m L).length = cutS m (sAt L key L.length) := by
  have e0 : cutS m 0 = 0 := by unfold cutS; split <;> omega
  rw [sAt_stA key _ (by rw [forgetL_eq]; exact up_cmpF (up_cut h m) 0), sAt_stA key L h, forgetL_eq, stA_cmpF key 0 (up_cut h m), ← stA_cut, e0]

/-! ### how many of the first i are kept -/
def cnt (M : List Rng) (i : Nat) : Nat := (cmpF 0 (M.take i)).length

theorem cnt_zero (M : List Rng) : cnt M 0 = 0 := rfl
theorem cmpF_step {M : List Rng} {i : Nat} (h : i < M.length) : cmpF 0 (M.take (i + 1)) = cmpF 0 (M.take i) ++ more (M[i]?.getD dP) (lastS 0 (M.take i)) := by
  rw [take_snoc h, cmpF_snoc]
theorem cnt_step {M : List Rng} {i : Nat} (h : i < M.length) : cnt M (i + 1) = cnt M i ∨ (cnt M (i + 1) = cnt M i + 1 ∧ (cmpF 0 (M.take (i + 1)))[cnt M i]? = some (M[i]?.getD dP)) := by
  unfold cnt
  rw [cmpF_step h]
  by_cases e : (M[i]?.getD dP).2 = lastS 0 (M.take i)
  · rw [more_eq e]; left; simp
  · rw [more_ne e]; right; simp
theorem cnt_mono {M : List Rng} {i j : Nat} (h : i ≤ j) (hj : j ≤ M.length) : cnt M i ≤ cnt M j := by
  induction j with
  | zero => obtain rfl : i = 0 := by omega
            exact Nat.le_refl _
  | succ j ih =>
    by_cases e : i = j + 1
    · subst e; exact Nat.le_refl _
    · have := ih (by omega) (by omega)
      rcases cnt_step (M := M) (i := j) (by omega) with h1 | ⟨h1, _⟩ <;> omega
theorem cnt_all (M : List Rng) : cnt M M.length = (cmpF 0 M).length := by unfold cnt; rw [List.take_length]

/-- What is kept of the first i are the first of what is kept of all. -/
theorem cmpF_prefix {M : List Rng} {i j : Nat} (h : i ≤ j) (hj : j ≤ M.length) {k : Nat} (hk : k < cnt M i) : (cmpF 0 (M.take j))[k]? = (cmpF 0 (M.take i))[k]? := by
  induction j with
  | zero => obtain rfl : i = 0 := by omega
            rfl
  | succ j ih =>
    by_cases e : i = j + 1
    · subst e; rfl
    · have hc := cnt_mono (M := M) (i := i) (j := j) (by omega) (by omega)
      rw [cmpF_step (by omega), List.getElem?_append_left (by unfold cnt at hc hk; omega)]
      exact ih (by omega) (by omega)

/-- The k-th that is kept is the i-th of all just where cnt goes from k to k + 1. -/
theorem kept_at {M : List Rng} {i : Nat} (h : i < M.length) (hc : cnt M (i + 1) ≠ cnt M i) : (cmpF 0 M)[cnt M i]?.getD dP = M[i]?.getD dP := by
  rcases cnt_step h with h1 | ⟨h1, h2⟩
  · exact absurd h1 hc
  · have := cmpF_prefix (M := M) (i := i + 1) (j := M.length) (by omega) (Nat.le_refl _) (k := cnt M i) (by omega)
    rw [List.take_length] at this
    rw [this, h2]
    rfl

/-- Before the k-th of what is kept: there is a place further on. -/
theorem kept_further {M : List Rng} {j k : Nat} (hj : j ≤ M.length) (hc : cnt M j = k) (hk : k < (cmpF 0 M).length) : ∃ i, j ≤ i ∧ i < M.length ∧ cnt M i = k ∧ cnt M (i + 1) = k + 1 := by
  have gen : ∀ d, d = M.length - j → ∃ i, j ≤ i ∧ i < M.length ∧ cnt M i = k ∧ cnt M (i + 1) = k + 1 := by
    intro d
    induction d generalizing j with
    | zero =>
      intro hd
      obtain rfl : j = M.length := by omega
      rw [cnt_all] at hc; omega
    | succ d ih =>
      intro hd
      rcases cnt_step (M := M) (i := j) (by omega) with h1 | ⟨h1, _⟩
      · obtain ⟨i, a, b, c, e⟩ := ih (j := j + 1) (by omega) (by omega) (by omega)
        exact ⟨i, by omega, b, c, e⟩
      · exact ⟨j, Nat.le_refl _, by omega, hc, by omega⟩
  exact gen _ rfl

theorem lastS_cmpF (a : Int) (M : List Rng) : lastS a (cmpF a M) = lastS a M := by
  induction M generalizing a with
  | nil => rfl
  | cons p t ih =>
    by_cases h : p.2 = a
    · rw [cmpF_eq h, ih a, lastS_cons, h]
    · rw [cmpF_ne h, lastS_cons, lastS_cons, ih p.2]

theorem lastS_get {M : List Rng} (h : 0 < M.length) (a : Int) : lastS a M = (M[M.length - 1]?.getD dP).2 := by
  have := lastS_take (L := M) (k := M.length) h (Nat.le_refl _) a
  rwa [List.take_length] at this

/-- THE STAMP READ AT THE i-th BOUND. -/
theorem got_at {M : List Rng} {i : Nat} (h : i < M.length) : (if cnt M (i + 1) = 0 then 0 else ((cmpF 0 M)[cnt M (i + 1) - 1]?.getD dP).2) = (M[i]?.getD dP).2 := by
  have e1 : lastS 0 (cmpF 0 (M.take (i + 1))) = (M[i]?.getD dP).2 := by
    rw [lastS_cmpF, lastS_take (by omega) (by omega)]; rfl
  rw [← e1]
  by_cases hc : cnt M (i + 1) = 0
  · rw [if_pos hc]
    have : cmpF 0 (M.take (i + 1)) = [] := List.eq_nil_of_length_eq_zero hc
    rw [this]; rfl
  · rw [if_neg hc, lastS_get (by unfold cnt at hc; omega)]
    have := cmpF_prefix (M := M) (i := i + 1) (j := M.length) (by omega) (Nat.le_refl _) (k := cnt M (i + 1) - 1) (by omega)
    rw [List.take_length] at this
    rw [this]; rfl

/-! ### no two neighbours alike; the first is not 0; what is not 0 exceeds m -/
theorem cmpF_first (a : Int) (M : List Rng) (h : 0 < (cmpF a M).length) : ¬ ((cmpF a M)[0]?.getD dP).2 = a := by
  induction M generalizing a with
  | nil => simp [cmpF] at h
  | cons p t ih =>
    by_cases e : p.2 = a
    · rw [cmpF_eq e] at h ⊢; exact ih a h
    · rw [cmpF_ne e]; simpa using e

theorem cmpF_neigh (a : Int) (M : List Rng) (k : Nat) (h0 : 0 < k) (h : k < (cmpF a M).length) : ¬ ((cmpF a M)[k]?.getD dP).2 = ((cmpF a M)[k - 1]?.getD dP).2 := by
  induction M generalizing a k with
  | nil => simp [cmpF] at h
  | cons p t ih =>
    by_cases e : p.2 = a
    · rw [cmpF_eq e] at h ⊢; exact ih a k h0 h
    · rw [cmpF_ne e] at h ⊢
      obtain ⟨j, rfl⟩ : ∃ j, k = j + 1 := ⟨k - 1, by omega⟩
      simp only [List.length_cons] at h
      rcases Nat.eq_zero_or_pos j with hj | hj
      · subst hj
        have := cmpF_first p.2 t (by omega)
        simpa using this
      · obtain ⟨i, rfl⟩ : ∃ i, j = i + 1 := ⟨j - 1, by omega⟩
        have := ih p.2 (i + 1) (by omega) (by omega)
        simpa using this

theorem cmpF_above {L : List Rng} {m : Int} (k : Nat) (h : k < (cmpF 0 (cutL m L)).length) : ((cmpF 0 (cutL m L))[k]?.getD dP).2 = 0 ∨ m < ((cmpF 0 (cutL m L))[k]?.getD dP).2 := by
  have hm : (cmpF 0 (cutL m L))[k] ∈ cutL m L := (cmpF_sub 0 (cutL m L)).subset (List.getElem_mem h)
  rw [List.getElem?_eq_getElem h, Option.getD_some]
  generalize (cmpF 0 (cutL m L))[k] = x at hm
  unfold cutL at hm
  obtain ⟨p, _, rfl⟩ := List.mem_map.1 hm
  simp only [cutS]
  split
  · exact Or.inl rfl
  · right; omega

end Go.Proofs.Qxb6618291a
