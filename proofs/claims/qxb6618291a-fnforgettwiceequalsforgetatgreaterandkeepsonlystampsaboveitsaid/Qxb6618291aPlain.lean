/-
  THE PLAIN LAWS of seat b6618291a: a list of ranges (bound, stamp); what 'forget' makes of it; that twice is once at the greater; what the record keeps. No Go in sight.
-/
import Derived.Lib.Strings
namespace Go.Proofs.Qxb6618291a

abbrev Rng : Type := ByteArray × Int
def dP : Rng := (ByteArray.empty, 0)

/-- A stamp at or below m is set to 0. -/
def cutS (m b : Int) : Int := if b ≤ m then 0 else b
def cutL (m : Int) (L : List Rng) : List Rng := L.map fun p => (p.1, cutS m p.2)

/-- Of the list those whose stamp is not that of the one before; a: the stamp before the first. -/
def cmpF (a : Int) : List Rng → List Rng
  | [] => []
  | p :: t => if p.2 = a then cmpF a t else p :: cmpF p.2 t

/-- 'slices.CompactFunc(L, sameReadBy)'. -/
def cmpL : List Rng → List Rng
  | [] => []
  | p :: t => p :: cmpF p.2 t

/-- The stamp of the last one, or a. -/
def lastS (a : Int) : List Rng → Int
  | [] => a
  | p :: t => lastS p.2 t

theorem cmpF_eq {a : Int} {p : Rng} (h : p.2 = a) (t : List Rng) : cmpF a (p :: t) = cmpF a t := by rw [cmpF, if_pos h]
theorem cmpF_ne {a : Int} {p : Rng} (h : ¬ p.2 = a) (t : List Rng) : cmpF a (p :: t) = p :: cmpF p.2 t := by rw [cmpF, if_neg h]
theorem cmpL_cons (p : Rng) (t : List Rng) : cmpL (p :: t) = p :: cmpF p.2 t := rfl
theorem lastS_cons (a : Int) (p : Rng) (t : List Rng) : lastS a (p :: t) = lastS p.2 t := rfl

/-- What x adds behind a stamp s. -/
def more (x : Rng) (s : Int) : List Rng := if x.2 = s then [] else [x]
theorem more_eq {x : Rng} {s : Int} (h : x.2 = s) : more x s = [] := if_pos h
theorem more_ne {x : Rng} {s : Int} (h : ¬ x.2 = s) : more x s = [x] := if_neg h

theorem lastS_snoc (a : Int) (M : List Rng) (x : Rng) : lastS a (M ++ [x]) = x.2 := by
  induction M generalizing a with
  | nil => rfl
  | cons p t ih => exact ih p.2

theorem cmpF_snoc (a : Int) (M : List Rng) (x : Rng) : cmpF a (M ++ [x]) = cmpF a M ++ more x (lastS a M) := by
  induction M generalizing a with
  | nil =>
    by_cases h : x.2 = a
    · rw [List.nil_append, cmpF_eq h, more_eq (show x.2 = lastS a [] from h)]; rfl
    · rw [List.nil_append, cmpF_ne h, more_ne (show ¬ x.2 = lastS a [] from h)]; rfl
  | cons p t ih =>
    by_cases h : p.2 = a
    · rw [List.cons_append, cmpF_eq h, cmpF_eq h, ih a, lastS_cons, h]
    · rw [List.cons_append, cmpF_ne h, cmpF_ne h, ih p.2, lastS_cons, List.cons_append]

theorem cmpL_snoc {M : List Rng} (hM : M ≠ []) (x : Rng) : cmpL (M ++ [x]) = cmpL M ++ more x (lastS 0 M) := by
  cases M with
  | nil => exact absurd rfl hM
  | cons p t => rw [List.cons_append, cmpL_cons, cmpL_cons, cmpF_snoc, lastS_cons, List.cons_append]

theorem lastS_take {L : List Rng} {k : Nat} (h0 : 0 < k) (hk : k ≤ L.length) (a : Int) : lastS a (L.take k) = (L[k - 1]?.getD dP).2 := by
  obtain ⟨j, rfl⟩ : ∃ j, k = j + 1 := ⟨k - 1, by omega⟩
  have hj : j < L.length := by omega
  rw [List.take_succ_eq_append_getElem hj, lastS_snoc]
  simp [hj]

theorem take_snoc {L : List Rng} {k : Nat} (hk : k < L.length) : L.take (k + 1) = L.take k ++ [L[k]?.getD dP] := by
  rw [List.take_succ_eq_append_getElem hk]
  simp [hk]

/-- One element more. -/
theorem cmpL_step {L : List Rng} {k : Nat} (h0 : 0 < k) (hk : k < L.length) :
    cmpL (L.take (k + 1)) = cmpL (L.take k) ++ more (L[k]?.getD dP) (L[k - 1]?.getD dP).2 := by
  rw [take_snoc hk, cmpL_snoc, lastS_take h0 (by omega)]
  intro e
  have := congrArg List.length e
  rw [List.length_take] at this
  simp only [List.length_nil] at this
  omega

/-- No two neighbours alike: nothing goes. -/
theorem cmpL_id {L : List Rng} {k : Nat} (hk : k ≤ L.length) (h : ∀ i, 0 < i → i < k → (L[i]?.getD dP).2 ≠ (L[i - 1]?.getD dP).2) : cmpL (L.take k) = L.take k := by
  induction k with
  | zero => rfl
  | succ k ih =>
    rcases Nat.eq_zero_or_pos k with h0 | h0
    · subst h0
      cases L with
      | nil => rfl
      | cons p t => simp [cmpL, cmpF]
    · rw [cmpL_step h0 (by omega), more_ne (h k h0 (by omega)), ih (by omega) (fun i a b => h i a (by omega)), ← take_snoc (by omega)]

theorem cmpF_length (a : Int) (M : List Rng) : (cmpF a M).length ≤ M.length := by
  induction M generalizing a with
  | nil => simp [cmpF]
  | cons p t ih =>
    unfold cmpF
    split
    · have := ih a; simp; omega
    · have := ih p.2; simp; omega

theorem cmpL_length (M : List Rng) : (cmpL M).length ≤ M.length := by
  cases M with
  | nil => simp [cmpL]
  | cons p t => have := cmpF_length p.2 t; simp [cmpL]; omega

/-- 'if len(r) > 0 && r[0].readBy == 0 { r = slices.Delete(r, 0, 1) }'. -/
def dropZ : List Rng → List Rng
  | [] => []
  | p :: t => if p.2 = 0 then t else p :: t

/-- 'forget(h)'. -/
def forgetL (h : Int) (L : List Rng) : List Rng := dropZ (cmpL (cutL h L))

theorem dropZ_cmpL (M : List Rng) : dropZ (cmpL M) = cmpF 0 M := by
  cases M with
  | nil => rfl
  | cons p t =>
    rw [cmpL_cons]
    by_cases h : p.2 = 0
    · rw [dropZ, if_pos h, cmpF_eq h, h]
    · rw [dropZ, if_neg h, cmpF_ne h]

theorem forgetL_eq (h : Int) (L : List Rng) : forgetL h L = cmpF 0 (cutL h L) := dropZ_cmpL _

theorem cmpF_cut (g : Int) (M : List Rng) (a : Int) : cmpF (cutS g a) (cutL g (cmpF a M)) = cmpF (cutS g a) (cutL g M) := by
  induction M generalizing a with
  | nil => rfl
  | cons p t ih =>
    have e : cutL g (p :: t) = (p.1, cutS g p.2) :: cutL g t := rfl
    by_cases h : p.2 = a
    · rw [e, cmpF_eq h, cmpF_eq (show cutS g p.2 = cutS g a by rw [h]), ih a]
    · have e3 : cutL g (p :: cmpF p.2 t) = (p.1, cutS g p.2) :: cutL g (cmpF p.2 t) := rfl
      rw [e, cmpF_ne h, e3]
      by_cases h2 : cutS g p.2 = cutS g a
      · rw [cmpF_eq (show cutS g p.2 = cutS g a from h2), cmpF_eq (show cutS g p.2 = cutS g a from h2), ← h2, ih p.2]
      · rw [cmpF_ne (show ¬ cutS g p.2 = cutS g a from h2), cmpF_ne (show ¬ cutS g p.2 = cutS g a from h2), ih p.2]

theorem cutS_cutS {h g : Int} (_h0 : 0 ≤ h) (g0 : 0 ≤ g) (b : Int) : cutS g (cutS h b) = cutS (if h < g then g else h) b := by
  unfold cutS
  by_cases h1 : b ≤ h <;> by_cases h2 : h < g <;> by_cases h3 : b ≤ g <;> simp [h1, h2, h3, g0] <;> omega

theorem cutL_cutL {h g : Int} (h0 : 0 ≤ h) (g0 : 0 ≤ g) (L : List Rng) : cutL g (cutL h L) = cutL (if h < g then g else h) L := by
  unfold cutL
  rw [List.map_map]
  apply List.map_congr_left
  intro p _
  simp only [Function.comp]
  rw [cutS_cutS h0 g0]

/-- TWICE IS ONCE AT THE GREATER. -/
theorem forget_twice {h g : Int} (h0 : 0 ≤ h) (g0 : 0 ≤ g) (L : List Rng) : forgetL g (forgetL h L) = forgetL (if h < g then g else h) L := by
  rw [forgetL_eq, forgetL_eq, forgetL_eq]
  have e : cutS g 0 = 0 := by unfold cutS; split <;> omega
  have := cmpF_cut g (cutL h L) 0
  rw [e] at this
  rw [this, cutL_cutL h0 g0]

end Go.Proofs.Qxb6618291a
