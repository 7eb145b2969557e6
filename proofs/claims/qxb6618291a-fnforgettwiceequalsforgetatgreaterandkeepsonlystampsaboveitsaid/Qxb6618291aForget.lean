/-
  THE WALK of '(*readRanges).forget'.
-/
import Derived.Test.Qxb6618291aCompact
import Derived.Test.Qxb6618291aDelete
namespace Go.Proofs.Qxb6618291a
open Go.RowKit

/-- The list in the row while the first loop goes: the first k cut. -/
def cutTo (h : Int) (L : List Rng) (k : Nat) : List Rng := (cutL h L).take k ++ L.drop k
theorem length_cutL (h : Int) (L : List Rng) : (cutL h L).length = L.length := by simp [cutL]
theorem cutTo_get (h : Int) (L : List Rng) {k : Nat} (hk : k ≤ L.length) (i : Nat) : (cutTo h L k)[i]?.getD dP = if i < k then (cutL h L)[i]?.getD dP else L[i]?.getD dP := by
  unfold cutTo
  have hl : ((cutL h L).take k).length = k := by rw [List.length_take, length_cutL]; omega
  by_cases hi : i < k
  · rw [if_pos hi, List.getElem?_append_left (by omega), List.getElem?_take_of_lt hi]
  · rw [if_neg hi, List.getElem?_append_right (by omega), List.getElem?_drop, hl]
    congr 2; omega
theorem cutL_get (h : Int) (L : List Rng) {i : Nat} (hi : i < L.length) : (cutL h L)[i]?.getD dP = ((L[i]?.getD dP).1, cutS h (L[i]?.getD dP).2) := by
  simp [cutL, hi]
theorem cutTo_zero (h : Int) (L : List Rng) : cutTo h L 0 = L := by simp [cutTo]
theorem cutTo_all (h : Int) (L : List Rng) : cutTo h L L.length = cutL h L := by
  unfold cutTo
  rw [List.drop_length, List.append_nil, List.take_of_length_le (by rw [length_cutL]; exact Nat.le_refl _)]
theorem cutTo_step (h : Int) (L : List Rng) {k : Nat} (hk : k < L.length) (i : Nat) : pcell (cutTo h L (k + 1)) i = if i = k * 2 + 1 then .int .u64 (cutS h (L[k]?.getD dP).2) else pcell (cutTo h L k) i := by
  by_cases hi : i = k * 2 + 1
  · subst hi; rw [if_pos rfl, pcell_odd, cutTo_get h L (by omega), if_pos (by omega), cutL_get h L hk]
  · rw [if_neg hi]
    by_cases h2 : i = k * 2
    · subst h2; rw [pcell_even, pcell_even, cutTo_get h L (by omega), cutTo_get h L (by omega), if_pos (by omega), if_neg (by omega), cutL_get h L hk]
    · apply pcell_congr
      rw [cutTo_get h L (by omega), cutTo_get h L (by omega)]
      by_cases h3 : i / 2 < k
      · rw [if_pos (by omega), if_pos h3]
      · rw [if_neg (by omega), if_neg h3]
theorem cutTo_same (h : Int) (L : List Rng) {k : Nat} (hk : k < L.length) (hc : ¬ (L[k]?.getD dP).2 ≤ h) (i : Nat) : pcell (cutTo h L (k + 1)) i = pcell (cutTo h L k) i := by
  rw [cutTo_step h L hk]
  by_cases hi : i = k * 2 + 1
  · subst hi; rw [if_pos rfl, pcell_odd, cutTo_get h L (by omega), if_neg (by omega)]; unfold cutS; rw [if_neg hc]
  · rw [if_neg hi]

theorem dropZ_nil {M : List Rng} (h : M.length = 0) : dropZ M = M := by
  obtain rfl : M = [] := List.eq_nil_of_length_eq_zero h
  rfl
theorem dropZ_zero {M : List Rng} (h : 0 < M.length) (hz : (M[0]?.getD dP).2 = 0) : dropZ M = M.tail := by
  cases M with
  | nil => simp at h
  | cons p t => rw [dropZ, if_pos (by simpa using hz)]; rfl
theorem dropZ_keep {M : List Rng} (hz : ¬ (M[0]?.getD dP).2 = 0) : dropZ M = M := by
  cases M with
  | nil => rfl
  | cons p t => rw [dropZ, if_neg (by simpa using hz)]

set_option maxRecDepth 100000 in
set_option maxHeartbeats 2000000 in
theorem forget_any (rb g n : Nat) (L : List Rng) (h : Int) (w : World) (hn : n ≤ 1048576) (hl : L.length = n) (hne : rb ≠ g) (hbox : w.rowIs rb 34 1 (fun _ => .slice (some ⟨g, 0, none⟩) n n)) (hrow : w.rowIs g 36 (n * 2) (pcell L)) :
    Calls Try.prog 11 #[.pointer (some ⟨rb, 0, none⟩), .int .u64 h] w fun e w' => e = .returned (.tuple #[]) ∧ w'.rowIs rb 34 1 (fun _ => .slice (some ⟨g, 0, none⟩) (forgetL h L).length n) ∧ w'.rowIs g 36 (n * 2) (pcell (forgetL h L)) ∧ Keep (fun k => k = g ∨ k = rb) w w' := by
  have HL : Hid (L.length = n) := hl
  clear hl
  have d0 := hbox.cell (show 0 < 1 by omega)
  go_enter Try.func11, Try.ntmps11
  go_wp2
  go_loopw [9] (fun vk wr => ∃ k : Nat, k ≤ n ∧ vk = .int .i64 k ∧ wr.rowIs rb 34 1 (fun _ => .slice (some ⟨g, 0, none⟩) n n) ∧ wr.rowIs g 36 (n * 2) (pcell (cutTo h L k)) ∧ Keep (fun k => k = g ∨ k = rb) w wr) (fun vk _ => n - (intOf vk).toNat)
  case atStart => exact ⟨0, by omega, rfl, hbox, by rw [cutTo_zero]; exact hrow, Keep.refl _ _⟩
  case round =>
    clear d0 hbox hrow
    obtain ⟨k, hk, rfl, hbox, hrow, hkp⟩ := hrel
    have d0 := hbox.cell (show 0 < 1 by omega)
    by_cases hkn : k < n
    · have c1 := hrow.cell (show k * 2 + 1 < n * 2 by omega)
      have z1 := hrow.frozen (k * 2 + 1)
      have hkl : k < L.length := by rw [HL.out]; exact hkn
      rw [pcell_odd, cutTo_get h L (by omega), if_neg (by omega)] at c1
      by_cases hc : (L[k]?.getD dP).2 ≤ h
      · have r1 : (wr.setCell ⟨g, k * 2 + 1, none⟩ (.int .u64 0)).rowIs g 36 (n * 2) (pcell (cutTo h L (k + 1))) :=
          (hrow.set (k * 2 + 1) _).congr fun i _ => by rw [cutTo_step h L hkl, show cutS h (L[k]?.getD dP).2 = 0 from if_pos hc]
        have r0 : (wr.setCell ⟨g, k * 2 + 1, none⟩ (.int .u64 0)).rowIs rb 34 1 (fun _ => .slice (some ⟨g, 0, none⟩) n n) := hbox.setOther (by exact hne) _
        have k1 : Keep (fun k => k = g ∨ k = rb) w (wr.setCell ⟨g, k * 2 + 1, none⟩ (.int .u64 0)) := hkp.setCell (a := ⟨g, k * 2 + 1, none⟩) (Or.inl (Or.inl rfl)) _
        clear hkl
        generalize (L[k]?.getD dP).2 = u at c1 hc
        go_wp2
        go_roundw
        case rel => exact ⟨k + 1, by omega, by go_num, r0, r1, k1⟩
        case measure => simp [intOf]; omega
      · have r1 : wr.rowIs g 36 (n * 2) (pcell (cutTo h L (k + 1))) := hrow.congr fun i _ => (cutTo_same h L hkl hc i).symm
        clear hkl
        generalize (L[k]?.getD dP).2 = u at c1 hc
        go_wp2
        go_roundw
        case rel => exact ⟨k + 1, by omega, by go_num, hbox, r1, hkp⟩
        case measure => simp [intOf]; omega
    · have hrow' : wr.rowIs g 36 (n * 2) (pcell (cutL h L)) := by
        have e : cutTo h L k = cutL h L := by rw [← cutTo_all, HL.out, show k = n from by omega]
        rw [← e]; exact hrow
      clear hrow
      go_wp2_with fail
      refine (compact_any g n (cutL h L) wr hn (by rw [length_cutL, HL.out]) hrow').mono ?_
      rintro e w1 ⟨m, rfl, hm, hrow1, hk1⟩
      have hbox1 := hk1.row hbox hne
      have hle := cmpL_length (cutL h L)
      rw [length_cutL, HL.out, ← hm] at hle
      have hkp1 : Keep (fun k => k = g ∨ k = rb) w w1 := hkp.trans (hk1.mono fun k _ hk => Or.inl hk)
      have HM : Hid (m = (cmpL (cutL h L)).length) := hm
      clear hm hrow' hk1 hkp d0 hbox hkn
      have d1 := hbox1.cell (show 0 < 1 by omega)
      have z1 := hbox1.frozen 0
      obtain ⟨M, hM⟩ : ∃ M, M = cmpL (cutL h L) := ⟨_, rfl⟩
      have HF : Hid (forgetL h L = dropZ M) := by rw [hM]; exact rfl
      rw [← hM] at hrow1 HM
      clear hM
      have hb2 : ∀ v, (w1.setCell ⟨rb, 0, none⟩ v).rowIs rb 34 1 (fun _ => v) := fun v => (hbox1.set 0 v).congr fun i hi => by rw [if_pos (by omega)]
      have hg2 : ∀ v, (w1.setCell ⟨rb, 0, none⟩ v).rowIs g 36 (n * 2) (pcell M) := fun v => hrow1.setOther (by exact fun e => hne e.symm) v
      have hk2 : ∀ v, Keep (fun k => k = g ∨ k = rb) w (w1.setCell ⟨rb, 0, none⟩ v) := fun v => hkp1.setCell (a := ⟨rb, 0, none⟩) (Or.inl (Or.inr rfl)) v
      have e1 := fun v => (hb2 v).cell (show 0 < 1 by omega)
      have e2 := fun v => (hb2 v).frozen 0
      rcases Nat.eq_zero_or_pos m with hm0 | hm0
      · have hF : Hid (forgetL h L = M) := by rw [HF.out]; exact dropZ_nil (by rw [← HM.out, hm0])
        have hML : Hid (M.length = m) := HM.out.symm
        have hd : decide (0 < m) = false := decide_eq_false (by omega)
        have hd' : decide ((0 : Int) < (m : Int)) = false := decide_eq_false (by omega)
        clear hm0
        go_wp2
        go_end0
        refine ⟨rfl, ?_, ?_, hk2 _⟩
        · rw [hF.out, hML.out]; exact hb2 _
        · rw [hF.out]; exact hg2 _
      · have c1 := fun v => (hg2 v).cell (show 0 * 2 + 1 < n * 2 by omega)
        simp only [pcell_odd] at c1
        simp only [Nat.zero_mul, Nat.zero_add] at c1
        have hML : Hid (M.length = m) := HM.out.symm
        by_cases hz : (M[0]?.getD dP).2 = 0
        · have hF : Hid (forgetL h L = M.tail) := by rw [HF.out]; exact dropZ_zero (by rw [← HM.out]; exact hm0) hz
          have hzb : ((M[0]?.getD dP).2 == 0) = true := by simp [hz]
          clear hz
          go_wp2_with fail
          refine (delete_any g n m M _ hn hML.out hm0 hle (hg2 _)).mono ?_
          rintro e w2 ⟨rfl, hrow2, hkd⟩
          have hbox2 := hkd.row (hb2 _) hne
          have hkp2 : Keep (fun k => k = g ∨ k = rb) w w2 := (hk2 _).trans (hkd.mono fun k _ hk => Or.inl hk)
          have f1 := hbox2.cell (show 0 < 1 by omega)
          have f2 := hbox2.frozen 0
          have hb3 : ∀ v, (w2.setCell ⟨rb, 0, none⟩ v).rowIs rb 34 1 (fun _ => v) := fun v => (hbox2.set 0 v).congr fun i hi => by rw [if_pos (by omega)]
          have hg3 : ∀ v, (w2.setCell ⟨rb, 0, none⟩ v).rowIs g 36 (n * 2) (pcell M.tail) := fun v => hrow2.setOther (by exact fun e => hne e.symm) v
          have hk3 : ∀ v, Keep (fun k => k = g ∨ k = rb) w (w2.setCell ⟨rb, 0, none⟩ v) := fun v => hkp2.setCell (a := ⟨rb, 0, none⟩) (Or.inl (Or.inr rfl)) v
          have hlt : Hid (M.tail.length = m - 1) := by show M.tail.length = m - 1; rw [List.length_tail, hML.out]
          clear hb2 hg2 hk2 e1 e2 c1 hrow1 hbox1 hkp1 d1 z1
          go_wp2
          go_end0
          refine ⟨rfl, ?_, ?_, hk3 _⟩
          · rw [hF.out, hlt.out]; exact hb3 _
          · rw [hF.out]; exact hg3 _
        · have hF : Hid (forgetL h L = M) := by rw [HF.out]; exact dropZ_keep hz
          have hzb : ((M[0]?.getD dP).2 == 0) = false := by simpa using hz
          clear hz
          go_wp2
          go_end0
          refine ⟨rfl, ?_, ?_, hk2 _⟩
          · rw [hF.out, hML.out]; exact hb2 _
          · rw [hF.out]; exact hg2 _

end Go.Proofs.Qxb6618291a
