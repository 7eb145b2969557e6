/-
  THE WALKS of 'wellFormed', 'mergeSubset', 'sameWords': over slices of integers that only are read.
-/
import Derived.Test.Qxb6618271aRows
import Derived.Test.Qxb6618271aPlain
import Derived.WalkKit
import Derived.WalkLawsBesides
import Derived.Deep.QuietTactic
import Derived.BigQuiet
namespace Go.Proofs.Qxb6618271a
open Go.RowKit

/-- THE SLICE (a, n) READS AS THE NUMBERS zs. -/
def Ints (k : IntKind) (w : World) (a : Option Addr) (n : Nat) (zs : List Int) : Prop :=
  zs.length = n ∧ ∀ i, i < n → ∃ b off, a = some ⟨b, off, none⟩ ∧ b < w.heap.size ∧ ∀ i, i < n → w.cell? ⟨b, off + i, none⟩ = some (.int k (zs[i]?.getD 0))

theorem Ints.below {k : IntKind} {w w' : World} {a : Option Addr} {n : Nat} {zs : List Int} (h : Ints k w a n zs) (hb : Below w.heap.size w w') : Ints k w' a n zs := by
  refine ⟨h.1, fun i hi => ?_⟩
  obtain ⟨b, off, e, hlt, hc⟩ := h.2 i hi
  exact ⟨b, off, e, Nat.lt_of_lt_of_le hlt hb.size, fun j hj => (hb.cell (p := ⟨b, off + j, none⟩) hlt).trans (hc j hj)⟩

set_option maxHeartbeats 400000 in
theorem form_any (a a' : Option Addr) (n n' cap cap' : Nat) (A B : List Int) (w : World) (hn : n ≤ 65536) (hA : Ints .i64 w a n A) (hB : Ints .u64 w a' n' B) :
    Calls Try.prog 6 #[.slice a n cap, .slice a' n' cap'] w fun e w' => ∃ r : Bool, e = .returned (.bool r) ∧ (r = true → n = n' ∧ Asc A) ∧ Below w.heap.size w w' := by
  by_cases hnn : n = n'
  · subst hnn
    go_enter Try.func6, Try.ntmps6
    go_wp2
    go_loopw [5] (fun vi wr => ∃ k : Nat, k ≤ n ∧ vi = .int .i64 k ∧ Hid (∀ i, 0 < i → i < k → A[i - 1]?.getD 0 < A[i]?.getD 0) ∧ Below w.heap.size w wr) (fun vi _ => n - (intOf vi).toNat)
    case atStart => exact ⟨0, by omega, rfl, fun i _ h => by omega, Below.refl _ _⟩
    case round =>
      obtain ⟨k, hk, rfl, hto, hbr⟩ := hrel
      by_cases hkn : k < n
      · obtain ⟨b, off, rfl, hlt, hcA⟩ := (hA.below hbr).2 k hkn
        obtain ⟨b', off', rfl, hlt', hcB⟩ := (hB.below hbr).2 k hkn
        have e1 := hcA k hkn
        have e2 := hcA (k - 1) (by omega)
        have e3 := hcB k hkn
        by_cases hz : B[k]?.getD 0 = 0
        · have g : (B[k]?.getD 0 == 0) = true := by simp [hz]
          clear hz
          go_wp2
          go_ret
          exact ⟨false, rfl, by simp, hbr⟩
        · have g : (B[k]?.getD 0 == 0) = false := by simp [hz]
          clear hz
          have hbq : ∀ nq, Below w.heap.size w (wr.drewN nq) := fun nq => below_drewN hbr nq
          by_cases hk0 : 0 < k
          · by_cases hlt : A[k - 1]?.getD 0 < A[k]?.getD 0
            · have hto' : Hid (∀ i, 0 < i → i < k + 1 → A[i - 1]?.getD 0 < A[i]?.getD 0) := by
                intro i h0 hi
                by_cases e : i = k
                · rw [e]; exact hlt
                · exact hto.out i h0 (by omega)
              clear hto
              go_wp2
              go_quiet (fail)
              go_wp2
              go_roundw
              case rel => exact ⟨k + 1, by omega, by go_num, hto', hbq _⟩
              case measure => simp [intOf]; omega
            · go_wp2
              go_quiet (fail)
              go_wp2
              go_ret
              exact ⟨false, rfl, by simp, hbq _⟩
          · have hd : decide (0 < k) = false := decide_eq_false hk0
            have hd' : decide ((0 : Int) < (k : Int)) = false := decide_eq_false (by omega)
            go_wp2
            go_quiet (fail)
            go_wp2
            go_roundw
            case rel => exact ⟨k + 1, by omega, by go_num, fun i h0 hi => by omega, hbq _⟩
            case measure => simp [intOf]; omega
      · go_wp2
        go_ret
        refine ⟨true, rfl, fun _ => ⟨trivial, asc_of_steps (fun i h0 hi => hto.out i h0 (by rw [hA.1] at hi; omega))⟩, hbr⟩
  · go_enter Try.func6, Try.ntmps6
    go_wp2
    go_ret
    exact ⟨false, rfl, by simp, Below.refl _ _⟩

set_option maxHeartbeats 1000000 in
theorem merge_any (a0 a1 a2 a3 : Option Addr) (n n' c0 c1 c2 c3 : Nat) (A B C D : List Int) (w : World) (hn : n ≤ 65536) (hn' : n' ≤ 65536) (aA : Asc A) (aC : Asc C)
    (hA : Ints .i64 w a0 n A) (hB : Ints .u64 w a1 n B) (hC : Ints .i64 w a2 n' C) (hD : Ints .u64 w a3 n' D) :
    Calls Try.prog 9 #[.slice a0 n c0, .slice a1 n c1, .slice a2 n' c2, .slice a3 n' c3] w fun e w' => ∃ r : Bool, e = .returned (.bool r) ∧ (r = true ↔ Sub A B C D) ∧ Below w.heap.size w w' := by
  go_enter Try.func9, Try.ntmps9
  go_wp2
  go_loopw [9, 10] (fun vj vi wr => ∃ k p : Nat, k ≤ n ∧ p ≤ n' ∧ vi = .int .i64 k ∧ vj = .int .i64 p ∧ Hid (SubTo A B C D k) ∧ Hid (k < n → ∀ j, j < p → C[j]?.getD 0 < A[k]?.getD 0) ∧ Below w.heap.size w wr) (fun _ vi _ => n - (intOf vi).toNat)
  case atStart => exact ⟨0, 0, by omega, by omega, rfl, rfl, subTo_zero _ _ _ _, fun _ j hj => by omega, Below.refl _ _⟩
  case round =>
    obtain ⟨k, p, hk, hp, rfl, rfl, hto, hah, hbo⟩ := hrel
    obtain ⟨wo, rfl⟩ : ∃ wo : World, wo = wr := ⟨_, rfl⟩
    by_cases hkn : k < n
    · obtain ⟨b0, o0, rfl, hlt0, hcA⟩ := (hA.below hbo).2 k hkn
      obtain ⟨b1, o1, rfl, hlt1, hcB⟩ := (hB.below hbo).2 k hkn
      have eA := hcA k hkn
      have eB := hcB k hkn
      go_wp2
      go_loopw [9] (fun vj wr => ∃ p : Nat, p ≤ n' ∧ vj = .int .i64 p ∧ Hid (∀ j, j < p → C[j]?.getD 0 < A[k]?.getD 0) ∧ Below w.heap.size w wr ∧ Below wo.heap.size wo wr) (fun vj _ => n' - (intOf vj).toNat)
      case atStart => exact ⟨p, hp, rfl, hah.out hkn, hbo, Below.refl _ _⟩
      case round =>
        clear hah hp
        obtain ⟨p, hp, rfl, hah, hbr, hbi⟩ := hrel
        have fA := (hbi.cell (p := ⟨b0, o0 + k, none⟩) hlt0).trans eA
        have fB := (hbi.cell (p := ⟨b1, o1 + k, none⟩) hlt1).trans eB
        have hbq : ∀ nq, Below w.heap.size w (wr.drewN nq) := fun nq => below_drewN hbr nq
        have hbp : ∀ nq, Below wo.heap.size wo (wr.drewN nq) := fun nq => below_drewN hbi nq
        by_cases hpn : p < n'
        · obtain ⟨b2, o2, rfl, hlt2, hcC⟩ := (hC.below hbr).2 p hpn
          obtain ⟨b3, o3, rfl, hlt3, hcD⟩ := (hD.below hbr).2 p hpn
          have fC := hcC p hpn
          have fD := hcD p hpn
          by_cases hca : C[p]?.getD 0 < A[k]?.getD 0
          · have hah' : Hid (∀ j, j < p + 1 → C[j]?.getD 0 < A[k]?.getD 0) := by
              intro j hj
              by_cases e : j = p
              · rw [e]; exact hca
              · exact hah.out j (by omega)
            go_wp2
            go_quiet (fail)
            go_wp2
            go_roundw
            case rel => exact ⟨p + 1, by omega, by go_num, hah', hbq _, hbp _⟩
            case measure => simp [intOf]; omega
          · have HQ : Hid (Sk C (A[k]?.getD 0) p) := ⟨by rw [hC.1]; exact hp, hah.out, fun _ => by omega⟩
            have g0 : ((p : Int) == (n' : Int)) = false := by rw [beq_eq_false_iff_ne]; omega
            by_cases he : C[p]?.getD 0 = A[k]?.getD 0
            · have g1 : (C[p]?.getD 0 != A[k]?.getD 0) = false := by simp [he]
              have HCA : Hid (C[p]?.getD 0 = A[k]?.getD 0) := he
              clear he
              by_cases hcv : Cov (B[k]?.getD 0) (D[p]?.getD 0)
              · have g2 : (bits BinOp.andNot IntKind.u64 (B[k]?.getD 0) (D[p]?.getD 0) != 0) = false := by unfold Cov at hcv; simp [hcv]
                have HT : Hid (SubTo A B C D (k + 1)) := subTo_succ hto.out (by rw [hC.1]; exact hpn) HCA.out hcv
                have HH : Hid (k + 1 < n → ∀ j, j < p → C[j]?.getD 0 < A[k + 1]?.getD 0) := fun h => ahead_next aA HQ.out.2.1 (by rw [hA.1]; exact h)
                clear hcv hto hah
                go_wp2
                go_quiet (fail)
                go_wp2
                go_quiet (fail)
                go_wp2
                go_quiet (fail)
                go_wp2
                go_roundw
                case rel => exact ⟨k + 1, p, by omega, by omega, by go_num, rfl, HT, HH, hbq _⟩
                case measure => simp [intOf]; omega
              · have g2 : (bits BinOp.andNot IntKind.u64 (B[k]?.getD 0) (D[p]?.getD 0) != 0) = true := by unfold Cov at hcv; simpa using hcv
                have hno : Hid (¬ Sub A B C D) := not_sub aC (by rw [hA.1]; exact hkn) HQ.out (fun h => hcv h.2.2)
                clear hcv hto hah
                go_wp2
                go_quiet (fail)
                go_wp2
                go_quiet (fail)
                go_wp2
                go_quiet (fail)
                go_wp2
                go_ret
                exact ⟨false, rfl, by simpa using hno.out, below_drewN (below_drewN (hbq _) _) _⟩
            · have g1 : (C[p]?.getD 0 != A[k]?.getD 0) = true := by simpa using he
              have hno : Hid (¬ Sub A B C D) := not_sub aC (by rw [hA.1]; exact hkn) HQ.out (fun h => he h.2.1)
              clear he hto hah
              go_wp2
              go_quiet (fail)
              go_wp2
              go_quiet (fail)
              go_wp2
              go_ret
              exact ⟨false, rfl, by simpa using hno.out, below_drewN (hbq _) _⟩
        · have hno : Hid (¬ Sub A B C D) := not_sub aC (by rw [hA.1]; exact hkn) (p := p) ⟨by rw [hC.1]; exact hp, hah.out, fun h => by rw [hC.1] at h; omega⟩ (fun h => by have := h.1; rw [hC.1] at this; omega)
          have g0 : ((p : Int) == (n' : Int)) = true := by rw [beq_iff_eq]; omega
          have hd : decide (p < n') = false := decide_eq_false hpn
          have hd' : decide ((p : Int) < (n' : Int)) = false := decide_eq_false (by omega)
          clear hto hah
          go_wp2
          go_quiet (fail)
          go_wp2
          go_ret
          exact ⟨false, rfl, by simpa using hno.out, hbq _⟩
    · go_wp2
      go_ret
      exact ⟨true, rfl, ⟨fun _ => sub_of_to hto.out (by rw [hA.1]; omega), fun _ => rfl⟩, hbo⟩

set_option maxHeartbeats 1000000 in
theorem same_any (a0 a1 a2 a3 : Option Addr) (n n' c0 c1 c2 c3 : Nat) (A B C D : List Int) (w : World) (hn : n ≤ 65536)
    (hA : Ints .i64 w a0 n A) (hB : Ints .u64 w a1 n B) (hC : Ints .i64 w a2 n' C) (hD : Ints .u64 w a3 n' D) :
    Calls Try.prog 11 #[.slice a0 n c0, .slice a1 n c1, .slice a2 n' c2, .slice a3 n' c3] w fun e w' => ∃ r : Bool, e = .returned (.bool r) ∧ (r = true ↔ Same A B C D) ∧ Below w.heap.size w w' := by
  by_cases hnn : n = n'
  · subst hnn
    go_enter Try.func11, Try.ntmps11
    go_wp2
    go_loopw [9] (fun vi wr => ∃ k : Nat, k ≤ n ∧ vi = .int .i64 k ∧ Hid (∀ i, i < k → A[i]?.getD 0 = C[i]?.getD 0 ∧ B[i]?.getD 0 = D[i]?.getD 0) ∧ Below w.heap.size w wr) (fun vi _ => n - (intOf vi).toNat)
    case atStart => exact ⟨0, by omega, rfl, fun i h => by omega, Below.refl _ _⟩
    case round =>
      obtain ⟨k, hk, rfl, hto, hbr⟩ := hrel
      have hbq : ∀ nq, Below w.heap.size w (wr.drewN nq) := fun nq => below_drewN hbr nq
      by_cases hkn : k < n
      · obtain ⟨b0, o0, rfl, hlt0, hcA⟩ := (hA.below hbr).2 k hkn
        obtain ⟨b1, o1, rfl, hlt1, hcB⟩ := (hB.below hbr).2 k hkn
        obtain ⟨b2, o2, rfl, hlt2, hcC⟩ := (hC.below hbr).2 k hkn
        obtain ⟨b3, o3, rfl, hlt3, hcD⟩ := (hD.below hbr).2 k hkn
        have fA := hcA k hkn
        have fB := hcB k hkn
        have fC := hcC k hkn
        have fD := hcD k hkn
        by_cases e1 : A[k]?.getD 0 = C[k]?.getD 0
        · have g1 : (A[k]?.getD 0 != C[k]?.getD 0) = false := by simp [e1]
          have E1 : Hid (A[k]?.getD 0 = C[k]?.getD 0) := e1
          clear e1
          by_cases e2 : B[k]?.getD 0 = D[k]?.getD 0
          · have g2 : (B[k]?.getD 0 != D[k]?.getD 0) = false := by simp [e2]
            have hto' : Hid (∀ i, i < k + 1 → A[i]?.getD 0 = C[i]?.getD 0 ∧ B[i]?.getD 0 = D[i]?.getD 0) := by
              intro i hi
              by_cases e : i = k
              · rw [e]; exact ⟨E1.out, e2⟩
              · exact hto.out i (by omega)
            clear e2 hto
            go_wp2
            go_quiet (fail)
            go_wp2
            go_roundw
            case rel => exact ⟨k + 1, by omega, by go_num, hto', hbq _⟩
            case measure => simp [intOf]; omega
          · have g2 : (B[k]?.getD 0 != D[k]?.getD 0) = true := by simpa using e2
            have hno : Hid (¬ Same A B C D) := fun h => e2 (h.2 k (by rw [hA.1]; exact hkn)).2
            clear e2 hto
            go_wp2
            go_quiet (fail)
            go_wp2
            go_ret
            exact ⟨false, rfl, by simpa using hno.out, hbq _⟩
        · have g1 : (A[k]?.getD 0 != C[k]?.getD 0) = true := by simpa using e1
          have hno : Hid (¬ Same A B C D) := fun h => e1 (h.2 k (by rw [hA.1]; exact hkn)).1
          clear e1 hto
          go_wp2
          go_quiet (fail)
          go_wp2
          go_ret
          exact ⟨false, rfl, by simpa using hno.out, hbq _⟩
      · go_wp2
        go_ret
        exact ⟨true, rfl, ⟨fun _ => ⟨by rw [hA.1, hC.1], fun i hi => hto.out i (by rw [hA.1] at hi; omega)⟩, fun _ => rfl⟩, hbr⟩
  · have hno : Hid (¬ Same A B C D) := fun h => hnn (by rw [← hA.1, ← hC.1]; exact h.1)
    go_enter Try.func11, Try.ntmps11
    go_wp2
    go_ret
    exact ⟨false, rfl, by simpa using hno.out, Below.refl _ _⟩

end Go.Proofs.Qxb6618271a
