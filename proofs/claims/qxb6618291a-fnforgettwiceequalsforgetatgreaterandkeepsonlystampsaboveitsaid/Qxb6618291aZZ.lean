/-
  THE WALK of 'ZZForget'.
-/
import Derived.Test.Qxb6618291aForget
import Derived.BigRegion
namespace Go.Proofs.Qxb6618291a
open Go.RowKit

theorem take_get (L : List Rng) (k i : Nat) : (L.take k)[i]?.getD dP = if i < k then L[i]?.getD dP else dP := by
  by_cases h : i < k
  · rw [if_pos h, List.getElem?_take_of_lt h]
  · rw [if_neg h, List.getElem?_eq_none (by rw [List.length_take]; omega)]; rfl
theorem take_put (L : List Rng) (k j : Nat) : (if j = k * 2 + 1 then Value.int .u64 (L[k]?.getD dP).2 else if j = k * 2 then Value.string (L[k]?.getD dP).1 else pcell (L.take k) j) = pcell (L.take (k + 1)) j := by
  by_cases h1 : j = k * 2 + 1
  · subst h1; rw [if_pos rfl, pcell_odd, take_get, if_pos (by omega)]
  · by_cases h2 : j = k * 2
    · subst h2; rw [if_neg (by omega), if_pos rfl, pcell_even, take_get, if_pos (by omega)]
    · rw [if_neg h1, if_neg h2]
      apply pcell_congr
      rw [take_get, take_get]
      by_cases h3 : j / 2 < k
      · rw [if_pos h3, if_pos (by omega)]
      · rw [if_neg h3, if_neg (by omega)]

/-- Of the new slice of bounds, of stamps, the first k laid. -/
def fcell (F : List Rng) (k i : Nat) : Value := .string ((F.take k)[i]?.getD dP).1
def ucell (F : List Rng) (k i : Nat) : Value := .int .u64 ((F.take k)[i]?.getD dP).2
theorem fcell_step (F : List Rng) (k j : Nat) : (if j = k then Value.string (F[k]?.getD dP).1 else fcell F k j) = fcell F (k + 1) j := by
  unfold fcell
  rw [take_get, take_get]
  by_cases h : j = k
  · subst h; rw [if_pos rfl, if_pos (by omega)]
  · rw [if_neg h]
    by_cases h2 : j < k
    · rw [if_pos h2, if_pos (by omega)]
    · rw [if_neg h2, if_neg (by omega)]
theorem ucell_step (F : List Rng) (k j : Nat) : (if j = k then Value.int .u64 (F[k]?.getD dP).2 else ucell F k j) = ucell F (k + 1) j := by
  unfold ucell
  rw [take_get, take_get]
  by_cases h : j = k
  · subst h; rw [if_pos rfl, if_pos (by omega)]
  · rw [if_neg h]
    by_cases h2 : j < k
    · rw [if_pos h2, if_pos (by omega)]
    · rw [if_neg h2, if_neg (by omega)]
theorem made_f (w : World) (F : List Rng) (m : Nat) : (w.alloc (.cells (madeCells #[.string ByteArray.empty] m) 9)).rowIs w.heap.size 9 m (fcell F 0) :=
  (World.rowIs_made w (.string ByteArray.empty) m 9).congr fun i _ => by unfold fcell; simp [dP]
theorem made_u (w : World) (F : List Rng) (m : Nat) : (w.alloc (.cells (madeCells #[.int .u64 0] m) 24)).rowIs w.heap.size 24 m (ucell F 0) :=
  (World.rowIs_made w (.int .u64 0) m 24).congr fun i _ => by unfold ucell; simp [dP]
theorem strs_of {w : World} {b m : Nat} {F : List Rng} (hl : F.length = m) (h : w.rowIs b 9 m (fcell F m)) : Strs w (some ⟨b, 0, none⟩) m (F.map (·.1)) := by
  refine Strs.of_row (h.congr fun i hi => ?_) (by simpa using hl)
  have hi' : i < F.length := by omega
  unfold fcell
  rw [take_get, if_pos hi]
  simp [hi']
theorem ints_of {w : World} {b m : Nat} {F : List Rng} (hl : F.length = m) (h : w.rowIs b 24 m (ucell F m)) : Ints .u64 w (some ⟨b, 0, none⟩) m (F.map (·.2)) := by
  refine Ints.of_row (h.congr fun i hi => ?_) (by simpa using hl)
  have hi' : i < F.length := by omega
  unfold ucell
  rw [take_get, if_pos hi]
  simp [hi']

theorem forgetL_length (h : Int) (L : List Rng) : (forgetL h L).length ≤ L.length := by
  rw [forgetL_eq]; have := cmpF_length 0 (cutL h L); rw [length_cutL] at this; exact this

set_option maxRecDepth 100000 in
set_option maxHeartbeats 2000000 in
theorem zz_any (a0 a1 : Option Addr) (n c0 c1 : Nat) (L : List Rng) (h : Int) (w : World) (hn : n ≤ 1048576) (hl : L.length = n) (hF : Strs w a0 n (L.map (·.1))) (hU : Ints .u64 w a1 n (L.map (·.2))) :
    Calls Try.prog 7 #[.slice a0 n c0, .slice a1 n c1, .int .u64 h] w fun e w' => ∃ (a b : Addr) (m : Nat), m = (forgetL h L).length ∧ e = .returned (.tuple #[.slice (some a) m m, .slice (some b) m m]) ∧ Strs w' (some a) m ((forgetL h L).map (·.1)) ∧ Ints .u64 w' (some b) m ((forgetL h L).map (·.2)) ∧ Below w.heap.size w w' := by
  have HL : Hid (L.length = n) := hl
  clear hl
  have hmk := make34 n hn
  have m0 : ∀ o, ((w.alloc (.cells (madeCells #[.string ByteArray.empty, .int .u64 0] (n * 2)) 36)).alloc o).rowIs w.heap.size 36 (n * 2) (pcell (L.take 0)) := fun o => (made_ranges w n).alloc o
  have m1 : ∀ o v, ((w.alloc o).alloc (.cells #[v] 34)).rowIs (w.heap.size + 1) 34 1 (fun _ => v) := fun o v => by
    have := World.rowIs_alloc (w.alloc o) #[v] 34 (fun _ => v) (fun i hi => by simp at hi; subst hi; rfl)
    simpa using this
  have m2 : ∀ o o', Below w.heap.size w ((w.alloc o).alloc o') := fun o o' => ((Below.refl _ _).alloc (Nat.le_refl _) _).alloc (by simp) _
  go_enter Try.func7, Try.ntmps7
  go_wp2
  go_loopw [10] (fun vi wr => ∃ k : Nat, k ≤ n ∧ vi = .int .i64 k ∧ wr.rowIs w.heap.size 36 (n * 2) (pcell (L.take k)) ∧ wr.rowIs (w.heap.size + 1) 34 1 (fun _ => .slice (some ⟨w.heap.size, 0, none⟩) n n) ∧ Below w.heap.size w wr) (fun vi _ => n - (intOf vi).toNat)
  case atStart => exact ⟨0, by omega, rfl, m0 _, m1 _ _, m2 _ _⟩
  case round =>
    clear m0 m1 m2 hmk
    obtain ⟨k, hk, rfl, r0, r1, hbr⟩ := hrel
    have t0 := r1.cell (show 0 < 1 by omega)
    by_cases hkn : k < n
    · obtain ⟨b0, o0, rfl, hlt0, hcA⟩ := (hF.below hbr).2 k hkn
      obtain ⟨b1, o1, rfl, hlt1, hcB⟩ := (hU.below hbr).2 k hkn
      have fA := hcA k hkn
      have fB := hcB k hkn
      have hkl : k < L.length := by rw [HL.out]; exact hkn
      have e1 : (L.map (·.1))[k]?.getD ByteArray.empty = (L[k]?.getD dP).1 := by simp [hkl]
      have e2 : (L.map (·.2))[k]?.getD 0 = (L[k]?.getD dP).2 := by simp [hkl]
      rw [e1] at fA
      rw [e2] at fB
      clear e1 e2 hcA hcB
      have hr' := ((r0.set (k * 2) (.string (L[k]?.getD dP).1)).set (k * 2 + 1) (.int .u64 (L[k]?.getD dP).2)).congr (fun j _ => take_put L k j)
      have HR : Hid (((wr.setCell ⟨w.heap.size, k * 2, none⟩ (.string (L[k]?.getD dP).1)).setCell ⟨w.heap.size, k * 2 + 1, none⟩ (.int .u64 (L[k]?.getD dP).2)).rowIs w.heap.size 36 (n * 2) (pcell (L.take (k + 1)))) := hr'
      clear hr' hkl
      have t1 := r0.cell (show k * 2 < n * 2 by omega)
      have t2 := r0.cell (show k * 2 + 1 < n * 2 by omega)
      have z1 := r0.frozen (k * 2)
      have z2 := r0.frozen (k * 2 + 1)
      generalize (L[k]?.getD dP).1 = p1 at fA HR
      generalize (L[k]?.getD dP).2 = p2 at fB HR
      go_wp2
      go_region
      all_goals
        go_wp2
        go_roundw
        case rel =>
          exact ⟨k + 1, by omega, by go_num, HR.out.drew, ((r1.setOther (by show w.heap.size + 1 ≠ w.heap.size; omega) _).setOther (by show w.heap.size + 1 ≠ w.heap.size; omega) _).drew, ((hbr.setCell (Nat.le_refl _) _).setCell (Nat.le_refl _) _).drew⟩
        case measure => simp [intOf]; omega
    · have hrow : wr.rowIs w.heap.size 36 (n * 2) (pcell L) := by
        have e : L.take k = L := List.take_of_length_le (by rw [HL.out]; omega)
        rw [← e]; exact r0
      go_wp2_with fail
      refine (forget_any (w.heap.size + 1) w.heap.size n L h wr hn HL.out (by omega) r1 hrow).mono ?_
      rintro e w1 ⟨rfl, hbox, hrow1, hkp⟩
      have hle := forgetL_length h L
      rw [HL.out] at hle
      have hbw : Below w.heap.size w w1 := hbr.trans (hkp.below hbr.size (by rintro k (rfl | rfl) <;> omega))
      obtain ⟨F, hFF⟩ : ∃ F, F = forgetL h L := ⟨_, rfl⟩
      have HFF : Hid (F = forgetL h L) := hFF
      rw [← hFF] at hbox hrow1 hle
      clear hFF hkp hrow r0 r1 t0 hbr
      obtain ⟨m, hm⟩ : ∃ m, m = F.length := ⟨_, rfl⟩
      have HM : Hid (F.length = m) := hm.symm
      rw [← hm] at hbox hle
      clear hm
      have d0 := hbox.cell (show 0 < 1 by omega)
      have hmk1 := make22 m (by omega)
      have hmk2 := make23 m (by omega)
      have hblt := hbox.lt
      have hglt := hrow1.lt
      have m3 : ∀ o, ((w1.alloc (.cells (madeCells #[.string ByteArray.empty] m) 9)).alloc o).rowIs w1.heap.size 9 m (fcell F 0) := fun o => (made_f w1 F m).alloc o
      have m4 : ∀ o, ((w1.alloc o).alloc (.cells (madeCells #[.int .u64 0] m) 24)).rowIs (w1.heap.size + 1) 24 m (ucell F 0) := fun o => by
        have := made_u (w1.alloc o) F m
        simpa using this
      have m5 : ∀ o o', Below w1.heap.size w1 ((w1.alloc o).alloc o') := fun o o' => ((Below.refl _ _).alloc (Nat.le_refl _) _).alloc (by simp) _
      go_wp2
      go_loopw [13] (fun vi wr => ∃ k : Nat, k ≤ m ∧ vi = .int .i64 k ∧ wr.rowIs w1.heap.size 9 m (fcell F k) ∧ wr.rowIs (w1.heap.size + 1) 24 m (ucell F k) ∧ Below w1.heap.size w1 wr) (fun vi _ => m - (intOf vi).toNat)
      case atStart => exact ⟨0, by omega, rfl, m3 _, m4 _, m5 _ _⟩
      case round =>
        clear m3 m4 m5 hmk1 hmk2
        obtain ⟨k, hk, rfl, r0, r1, hbr⟩ := hrel
        have hbox' := row_below hbox hbr hblt
        have hrow' := row_below hrow1 hbr hglt
        have t0 := hbox'.cell (show 0 < 1 by omega)
        by_cases hkm : k < m
        · have c1 := hrow'.cell (show k * 2 < n * 2 by omega)
          have c2 := hrow'.cell (show k * 2 + 1 < n * 2 by omega)
          rw [pcell_even] at c1
          rw [pcell_odd] at c2
          have t1 := r0.cell hkm
          have t2 := r1.cell hkm
          have z1 := r0.frozen k
          have z2 := r1.frozen k
          have hr0 := ((r0.set k (.string (F[k]?.getD dP).1)).congr (fun j _ => fcell_step F k j)).setOther (a := ⟨w1.heap.size + 1, k, none⟩) (by show w1.heap.size ≠ w1.heap.size + 1; omega) (.int .u64 (F[k]?.getD dP).2)
          have hr1 := ((r1.setOther (a := ⟨w1.heap.size, k, none⟩) (by show w1.heap.size + 1 ≠ w1.heap.size; omega) (.string (F[k]?.getD dP).1)).set k (.int .u64 (F[k]?.getD dP).2)).congr (fun j _ => ucell_step F k j)
          have hb' := (hbr.setCell (p := ⟨w1.heap.size, k, none⟩) (Nat.le_refl _) (.string (F[k]?.getD dP).1)).setCell (p := ⟨w1.heap.size + 1, k, none⟩) (by show w1.heap.size ≤ w1.heap.size + 1; omega) (.int .u64 (F[k]?.getD dP).2)
          generalize (F[k]?.getD dP).1 = p1 at c1 hr0 hr1 hb'
          generalize (F[k]?.getD dP).2 = p2 at c2 hr0 hr1 hb'
          go_wp2
          go_roundw
          case rel => exact ⟨k + 1, by omega, by go_num, hr0, hr1, hb'⟩
          case measure => simp [intOf]; omega
        · obtain rfl : k = m := by omega
          have g1 := strs_of HM.out r0
          have g2 := ints_of HM.out r1
          have G1 : Hid (Strs wr (some ⟨w1.heap.size, 0, none⟩) k (F.map (·.1))) := g1
          have G2 : Hid (Ints .u64 wr (some ⟨w1.heap.size + 1, 0, none⟩) k (F.map (·.2))) := g2
          clear g1 g2
          go_wp2
          go_ret2
          exact ⟨_, _, k, by rw [← HFF.out, HM.out], rfl, by rw [← HFF.out]; exact G1.out, by rw [← HFF.out]; exact G2.out, hbw.trans (hbr.mono hbw.size)⟩

end Go.Proofs.Qxb6618291a
