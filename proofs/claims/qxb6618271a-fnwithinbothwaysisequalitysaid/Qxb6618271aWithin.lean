/-
  THE WALK of 'Within'.
-/
import Derived.Test.Qxb6618271aSeek
import Derived.Test.Qxb6618271aStart
namespace Go.Proofs.Qxb6618271a
open Go.RowKit

/-- The cells of the words (A, B), two a word. -/
def wcell (A B : List Int) (i : Nat) : Value := if i % 2 = 0 then .int .i64 (A[i / 2]?.getD 0) else .int .u64 (B[i / 2]?.getD 0)
theorem wcell_even (A B : List Int) (j : Nat) : wcell A B (j * 2) = .int .i64 (A[j]?.getD 0) := by
  unfold wcell; rw [if_pos (by omega), show j * 2 / 2 = j from by omega]
theorem wcell_odd (A B : List Int) (j : Nat) : wcell A B (j * 2 + 1) = .int .u64 (B[j]?.getD 0) := by
  unfold wcell; rw [if_neg (by omega), show (j * 2 + 1) / 2 = j from by omega]

theorem rowIs_below {B : Nat} {w w' : World} {b t n : Nat} {f : Nat → Value} (h : w.rowIs b t n f) (hb : Below B w w') (hlt : b < B) : w'.rowIs b t n f := h.of_block (hb.block b hlt)

set_option maxHeartbeats 1000000 in
theorem within_any (b b' n n' cs ct : Nat) (A B C D : List Int) (w : World) (hA : A.length = n) (hB : B.length = n) (hC : C.length = n') (hD : D.length = n') (hn : n ≤ 65536) (hn' : n' ≤ 65536)
    (aA : Asc A) (aC : Asc C) (uB : U64s B) (hS : w.rowIs b 33 (n * 2) (wcell A B)) (hT : w.rowIs b' 33 (n' * 2) (wcell C D)) :
    Calls Try.prog 8 #[.agg #[.slice (some ⟨b, 0, none⟩) n cs], .agg #[.slice (some ⟨b', 0, none⟩) n' ct]] w fun e w' => ∃ r : Bool, e = .returned (.bool r) ∧ (r = true ↔ Sub A B C D) ∧ Below w.heap.size w w' := by
  have HA : Hid (A.length = n) := hA
  have HB : Hid (B.length = n) := hB
  have HC : Hid (C.length = n') := hC
  have HD : Hid (D.length = n') := hD
  clear hA hB hC hD
  obtain ⟨oS, hoS⟩ : ∃ oS : Obj, oS = .cells #[.slice (some ⟨b, 0, none⟩) n cs] 28 := ⟨_, rfl⟩
  obtain ⟨oT, hoT⟩ : ∃ oT : Obj, oT = .cells #[.slice (some ⟨b', 0, none⟩) n' ct] 28 := ⟨_, rfl⟩
  have c1 : ((w.alloc oS).alloc oT).cell? ⟨w.heap.size, 0, none⟩ = some (.slice (some ⟨b, 0, none⟩) n cs) := by subst hoS; simp
  have c2 : ((w.alloc oS).alloc oT).cell? ⟨w.heap.size + 1, 0, none⟩ = some (.slice (some ⟨b', 0, none⟩) n' ct) := by subst hoT; simp
  have hlt := hS.lt
  have hlt' := hT.lt
  have hS2 := (hS.alloc oS).alloc oT
  have hT2 := (hT.alloc oS).alloc oT
  have hB2 : Below w.heap.size w ((w.alloc oS).alloc oT) := ((Below.refl _ _).alloc (Nat.le_refl _) _).alloc (by simp) _
  have hz : ((w.alloc oS).alloc oT).heap.size = w.heap.size + 2 := by simp
  subst hoS hoT
  go_enter Try.func8, Try.ntmps8
  go_wp2_with fail
  refine (start_any b n cs b' n' ct _ _ _ _ _ hS2 hT2).mono ?_
  rintro e w1 ⟨r, rfl, hr, hb1⟩
  rw [hz] at hb1
  have c1' := (hb1.cell (p := ⟨w.heap.size, 0, none⟩) (by show w.heap.size < _; omega)).trans c1
  have c2' := (hb1.cell (p := ⟨w.heap.size + 1, 0, none⟩) (by show w.heap.size + 1 < _; omega)).trans c2
  have hS1 := rowIs_below hS2 hb1 (by omega)
  have hT1 := rowIs_below hT2 hb1 (by omega)
  have hbb : Below w.heap.size w w1 := hB2.trans (hb1.mono (by omega))
  have hsz1 : w.heap.size + 2 ≤ w1.heap.size := by have := hb1.size; omega
  clear hb1 hS2 hT2 c1 c2 hB2 hS hT hz
  by_cases hcase : r = true ∧ n ≤ n'
  · obtain ⟨rfl, hle⟩ := hcase
    have hb : b = b' := hr rfl
    have hsub : Hid (Sub A B C D) := by
      subst hb
      refine sub_prefix uB (by rw [HA.out, HB.out]) (by rw [HA.out, HC.out]; exact hle) (fun i hi => ?_) (fun i hi => ?_)
      · rw [HA.out] at hi
        have e := (hT1.cell (show i * 2 < n' * 2 by omega)).symm.trans (hS1.cell (show i * 2 < n * 2 by omega))
        rw [wcell_even, wcell_even] at e; simpa using e
      · rw [HA.out] at hi
        have e := (hT1.cell (show i * 2 + 1 < n' * 2 by omega)).symm.trans (hS1.cell (show i * 2 + 1 < n * 2 by omega))
        rw [wcell_odd, wcell_odd] at e; simpa using e
    clear hr hb
    go_wp2
    go_ret
    exact ⟨true, rfl, ⟨fun _ => hsub.out, fun _ => rfl⟩, hbb⟩
  · have hg : r = false ∨ (r = true ∧ n' < n) := by cases r <;> simp_all
    clear hcase hr
    rcases hg with rfl | ⟨rfl, hg⟩
    case' inr =>
      have hd : decide (n ≤ n') = false := decide_eq_false (by omega)
    all_goals
      go_wp2
      go_loopw [5, 23] (fun vj vi wr => ∃ k p : Nat, k ≤ n ∧ p ≤ n' ∧ vi = .int .i64 k ∧ vj = .int .i64 p ∧ Hid (SubTo A B C D k) ∧ Hid (k < n → ∀ j, j < p → C[j]?.getD 0 < A[k]?.getD 0) ∧ Below (w.heap.size + 2) w1 wr) (fun _ vi _ => n - (intOf vi).toNat)
      case atStart => exact ⟨0, 0, by omega, by omega, rfl, rfl, subTo_zero _ _ _ _, fun _ j hj => by omega, Below.refl _ _⟩
      case round =>
        obtain ⟨k, p, hk, hp, rfl, rfl, hto, hah, hbr⟩ := hrel
        have d1 := (hbr.cell (p := ⟨w.heap.size, 0, none⟩) (by show w.heap.size < _; omega)).trans c1'
        have d2 := (hbr.cell (p := ⟨w.heap.size + 1, 0, none⟩) (by show w.heap.size + 1 < _; omega)).trans c2'
        have hSr := rowIs_below hS1 hbr (by omega)
        have hTr := rowIs_below hT1 hbr (by omega)
        have hszr : w.heap.size + 2 ≤ wr.heap.size := by have := hbr.size; omega
        by_cases hkn : k < n
        · have e1 := hSr.cell (show k * 2 < n * 2 by omega)
          have e2 := hSr.cell (show k * 2 + 1 < n * 2 by omega)
          rw [wcell_even] at e1
          rw [wcell_odd] at e2
          have a1 : ∀ o i, i < n' * 2 → (wr.alloc o).cell? ⟨b', i, none⟩ = some (wcell C D i) := fun o i hi => (hTr.alloc o).cell hi
          have a2 : ∀ o, (wr.alloc o).cell? ⟨w.heap.size + 1, 0, none⟩ = some (.slice (some ⟨b', 0, none⟩) n' ct) := fun o => (((Below.refl wr.heap.size wr).alloc (Nat.le_refl _) o).cell (p := ⟨w.heap.size + 1, 0, none⟩) (by show w.heap.size + 1 < _; omega)).trans d2
          have HA1 := a1
          clear a1
          go_wp2_with fail
          refine (seek_any b' 0 n' ct C p (A[k]?.getD 0) _ HC.out hn' hp aC (hah.out hkn) (fun j hj => ?_)).mono ?_
          · rw [Nat.zero_add, HA1 _ _ (by omega), wcell_even]
          rintro e w2 ⟨q, rfl, hq, rfl⟩
          have HQ : Hid (Sk C (A[k]?.getD 0) q) := hq
          have hq1 : q ≤ n' := by have := hq.1; rw [HC.out] at this; exact this
          clear hq
          have hbw : ∀ o nq, Below w.heap.size w ((wr.alloc o).drewN nq) := fun o nq => below_drewN ((hbb.trans (hbr.mono (by omega))).alloc (by omega) o) nq
          rcases Nat.lt_or_eq_of_le hq1 with hqn | hqn
          · have f1 := fun o => HA1 o (q * 2) (by omega)
            have f2 := fun o => HA1 o (q * 2 + 1) (by omega)
            simp only [wcell_even, wcell_odd] at f1 f2
            clear HA1
            have g0 : ((q : Int) == (n' : Int)) = false := by rw [beq_eq_false_iff_ne]; omega
            by_cases hca : C[q]?.getD 0 = A[k]?.getD 0
            · have g1 : (C[q]?.getD 0 != A[k]?.getD 0) = false := by simp [hca]
              have HCA : Hid (C[q]?.getD 0 = A[k]?.getD 0) := hca
              clear hca
              by_cases hcv : Cov (B[k]?.getD 0) (D[q]?.getD 0)
              · have g2 : (bits BinOp.andNot IntKind.u64 (B[k]?.getD 0) (D[q]?.getD 0) != 0) = false := by unfold Cov at hcv; simp [hcv]
                have hto' := subTo_succ hto.out (by rw [HC.out]; exact hqn) HCA.out hcv
                have hah' : k + 1 < n → ∀ j, j < q → C[j]?.getD 0 < A[k + 1]?.getD 0 := fun h => ahead_next aA HQ.out.2.1 (by rw [HA.out]; exact h)
                have hbr' : ∀ o nq, Below (w.heap.size + 2) w1 ((wr.alloc o).drewN nq) := fun o nq => below_drewN (hbr.alloc (by omega) o) nq
                have HT : Hid (SubTo A B C D (k + 1)) := hto'
                have HH : Hid (k + 1 < n → ∀ j, j < q → C[j]?.getD 0 < A[k + 1]?.getD 0) := hah'
                clear hcv hto' hah' hto hah
                go_wp2
                go_quiet (fail)
                go_wp2
                go_roundw
                case rel => exact ⟨k + 1, q, by omega, by omega, by go_num, rfl, HT, HH, hbr' _ _⟩
                case measure => simp [intOf]; omega
              · have g2 : (bits BinOp.andNot IntKind.u64 (B[k]?.getD 0) (D[q]?.getD 0) != 0) = true := by unfold Cov at hcv; simpa using hcv
                have hno : Hid (¬ Sub A B C D) := not_sub aC (by rw [HA.out]; exact hkn) HQ.out (fun h => hcv h.2.2)
                clear hcv
                go_wp2
                go_quiet (fail)
                go_wp2
                go_ret
                exact ⟨false, rfl, by simpa using hno.out, hbw _ _⟩
            · have g1 : (C[q]?.getD 0 != A[k]?.getD 0) = true := by simpa using hca
              have hno : Hid (¬ Sub A B C D) := not_sub aC (by rw [HA.out]; exact hkn) HQ.out (fun h => hca h.2.1)
              clear hca
              go_wp2
              go_quiet (fail)
              go_wp2
              go_ret
              exact ⟨false, rfl, by simpa using hno.out, hbw _ _⟩
          · have hno : Hid (¬ Sub A B C D) := not_sub aC (by rw [HA.out]; exact hkn) HQ.out (fun h => by have := h.1; rw [HC.out] at this; omega)
            have g1 : ((q : Int) == (n' : Int)) = true := by rw [beq_iff_eq]; omega
            clear hqn
            go_wp2
            go_quiet (fail)
            go_wp2
            go_ret
            exact ⟨false, rfl, by simpa using hno.out, hbw _ _⟩
        · go_wp2
          go_ret
          exact ⟨true, rfl, ⟨fun _ => sub_of_to hto.out (by rw [HA.out]; omega), fun _ => rfl⟩, hbb.trans (hbr.mono (by omega))⟩

end Go.Proofs.Qxb6618271a
