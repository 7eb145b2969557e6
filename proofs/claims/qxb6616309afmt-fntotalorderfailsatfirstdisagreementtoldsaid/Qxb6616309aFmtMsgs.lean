/-
  THE WALK of 'b1Messages'.
-/
import Derived.Test.Qxb6616309aFmtZZ
import Derived.Test.Qxb6616309aFmtItoa
namespace Go.Proofs.Qxb6616309aFmt
open Go.RowKit

/-- the cells of a row of deliveries -/
def ED (ds : List (Int × Int)) : List Value := ds.flatMap fun d => [.int .i64 d.1, .int .i64 d.2]
theorem ED_length (ds : List (Int × Int)) : (ED ds).length = ds.length * 2 := by
  induction ds with
  | nil => rfl
  | cons d r ih => simp only [ED, List.flatMap_cons] at ih ⊢; simp [ih]; omega
theorem ED_get (ds : List (Int × Int)) (i : Nat) (hi : i < ds.length * 2) : (ED ds)[i]? = some (dcell ds i) := by
  induction ds generalizing i with
  | nil => simp at hi
  | cons d r ih =>
    simp only [ED, List.flatMap_cons] at ih ⊢
    rcases i with _ | _ | i
    · simp [dcell, nd]
    · simp [dcell, sq]
    · simp only [List.cons_append, List.nil_append, List.getElem?_cons_succ]
      rw [ih i (by simp at hi; omega)]
      unfold dcell nd sq
      have e1 : (i + 1 + 1) / 2 = i / 2 + 1 := by omega
      have e2 : (i + 1 + 1) % 2 = i % 2 := by omega
      rw [e1, e2]
      simp

theorem made_row (t : TypeId) (z : Array Value) (w : World) (n : Nat) : (w.alloc (.cells (madeCells z n) t)).rowIs w.heap.size t n (fun i => z[i % z.size]!) := by
  refine ⟨_, Deep.blk_alloc_new _ _, size_madeCells _ _, fun i hi => ?_⟩
  simp [madeCells, hi]

theorem make46 (n : Nat) (hn : n ≤ 1048576) (w : World) :
    (Instr.makeSlice 46 (.int .i64 (n : Int)) (.int .i64 (n : Int))).run Tryf.prog w = .ok (.slice (some ⟨w.heap.size, 0, none⟩) n n) (w.alloc (.cells (madeCells #[.string ByteArray.empty, .int .i64 0, .int .i64 0, .slice none 0 0] (n * 4)) 64)) := by
  obtain ⟨i, hi, hzz⟩ := Option.map_eq_some_iff.1 z64
  simp only [Prod.mk.injEq] at hzz
  obtain ⟨hz, hs, hb⟩ := hzz
  have hr := run_make (P := Tryf.prog) w 46 64 i _ Tryf.underlying46 hi hz .i64 .i64 n n (by omega) (Int.le_refl _) (by rw [hb]; omega) (by omega)
  simp only [Int.toNat_natCast, hs] at hr
  exact hr
theorem make59 (n : Nat) (hn : n ≤ 1048576) (w : World) :
    (Instr.makeSlice 59 (.int .i64 (n : Int)) (.int .i64 (n : Int))).run Tryf.prog w = .ok (.slice (some ⟨w.heap.size, 0, none⟩) n n) (w.alloc (.cells (madeCells #[.int .i64 0, .int .i64 0] (n * 2)) 61)) := by
  obtain ⟨i, hi, hzz⟩ := Option.map_eq_some_iff.1 z61
  simp only [Prod.mk.injEq] at hzz
  obtain ⟨hz, hs, hb⟩ := hzz
  have hr := run_make (P := Tryf.prog) w 59 61 i _ Tryf.underlying59 hi hz .i64 .i64 n n (by omega) (Int.le_refl _) (by rw [hb]; omega) (by omega)
  simp only [Int.toNat_natCast, hs] at hr
  exact hr

def upd {α : Type} (f : Nat → α) (m : Nat) (x : α) (i : Nat) : α := if i = m then x else f i
def dTo (j : Nat) (ds : List (Int × Int)) (i : Nat) : Value := if i < j * 2 then dcell ds i else .int .i64 0
def mTo (m : Nat) (id : Nat → ByteArray) (D n : Nat → Nat) (i : Nat) : Value := if i < m * 4 then mcell id D n i else (#[.string ByteArray.empty, .int .i64 0, .int .i64 0, .slice none 0 0] : Array Value)[i % 4]!
theorem dTo_zero (ds : List (Int × Int)) (i : Nat) : (#[Value.int .i64 0, Value.int .i64 0] : Array Value)[i % 2]! = dTo 0 ds i := by
  unfold dTo
  rw [if_neg (by omega)]
  have : i % 2 = 0 ∨ i % 2 = 1 := by omega
  rcases this with h | h <;> rw [h] <;> rfl
theorem mTo_zero (id : Nat → ByteArray) (D n : Nat → Nat) (i : Nat) : (#[.string ByteArray.empty, .int .i64 0, .int .i64 0, .slice none 0 0] : Array Value)[i % 4]! = mTo 0 id D n i := by
  unfold mTo
  rw [if_neg (by omega)]
theorem dTo_step (j : Nat) (ds : List (Int × Int)) (i : Nat) : (if i = j * 2 + 1 then Value.int .i64 (sq ds j) else if i = j * 2 then Value.int .i64 (nd ds j) else dTo j ds i) = dTo (j + 1) ds i := by
  by_cases h1 : i = j * 2 + 1
  · subst h1; rw [if_pos rfl]; unfold dTo; rw [if_pos (by omega), dcell_odd]
  · rw [if_neg h1]
    by_cases h2 : i = j * 2
    · subst h2; rw [if_pos rfl]; unfold dTo; rw [if_pos (by omega), dcell_even]
    · rw [if_neg h2]; unfold dTo
      by_cases h3 : i < j * 2
      · rw [if_pos h3, if_pos (by omega)]
      · rw [if_neg h3, if_neg (by omega)]
theorem mcell_upd {id : Nat → ByteArray} {D n : Nat → Nat} {m i db : Nat} {t : ByteArray} (h : i / 4 ≠ m) : mcell id D n i = mcell (upd id m t) (upd D m db) n i := by
  unfold mcell upd
  rw [if_neg h, if_neg h]
theorem mTo_step (m db : Nat) (id : Nat → ByteArray) (D n : Nat → Nat) (t : ByteArray) (i : Nat) :
    (if i = m * 4 + 3 then Value.slice (some ⟨db, 0, none⟩) (n m) (n m) else if i = m * 4 + 2 then .int .i64 0 else if i = m * 4 + 1 then .int .i64 0 else if i = m * 4 then .string t else mTo m id D n i) = mTo (m + 1) (upd id m t) (upd D m db) n i := by
  by_cases h3 : i = m * 4 + 3
  · subst h3; rw [if_pos rfl]; unfold mTo; rw [if_pos (by omega), mcell_ds]; simp [upd]
  rw [if_neg h3]
  by_cases h2 : i = m * 4 + 2
  · subst h2; rw [if_pos rfl]; unfold mTo mcell; rw [if_pos (by omega), if_neg (by omega), if_neg (by omega)]
  rw [if_neg h2]
  by_cases h1 : i = m * 4 + 1
  · subst h1; rw [if_pos rfl]; unfold mTo mcell; rw [if_pos (by omega), if_neg (by omega), if_neg (by omega)]
  rw [if_neg h1]
  by_cases h0 : i = m * 4
  · subst h0; rw [if_pos rfl]; unfold mTo; rw [if_pos (by omega), mcell_id]; simp [upd]
  rw [if_neg h0]
  unfold mTo
  by_cases h : i < m * 4
  · rw [if_pos h, if_pos (by omega), ← mcell_upd (by omega)]
  · rw [if_neg h, if_neg (by omega)]

theorem store2_far {w : World} {b o1 o2 : Nat} {u1 u2 v : Value} {o : Obj} {a : Addr} (h : w.cell? a = some v) (hne : a.block ≠ b) : (((w.setCell ⟨b, o1, none⟩ u1).setCell ⟨b, o2, none⟩ u2).alloc o).drew.cell? a = some v := by
  have hlt := World.block_lt_of_cell? _ _ h
  have e1 : ((w.setCell ⟨b, o1, none⟩ u1).setCell ⟨b, o2, none⟩ u2).heap[a.block]? = w.heap[a.block]? := (Below.heap_setCell _ _ _ _ hne).trans (Below.heap_setCell _ _ _ _ hne)
  refine (cell_alloc_past _ o a ?_).trans ((World.cell?_of_block e1).trans h)
  simpa [World.setCell] using hlt

/-- what 'b1Messages' leaves -/
structure MsgsOk (w : World) (mb : Nat) (id : Nat → ByteArray) (D : Nat → Nat) (dels : List (List (Int × Int))) : Prop where
  row : w.rowIs mb 64 (dels.length * 4) (mcell id D (lenOf dels))
  ds : ∀ m, m < dels.length → w.rowIs (D m) 61 (lenOf dels m * 2) (dcell (rowOf dels m))
  ids : ∀ m, (id m).size ≤ 1048576

/-- the outer slice of slices, read -/
theorem nest_read {α : Type} {E : List α → List Value} {tp ti sz B : Nat} {w : World} {a : Option Addr} {M c : Nat} {rows : List (List α)} {V : Nat → Value} (N : Nest E tp ti sz B w (.slice a M c) rows V) (hl : rows.length = M) {m : Nat} (hm : m < M) :
    ∃ g ai ci, a = some ⟨g, 0, none⟩ ∧ g < w.heap.size ∧ w.cell? ⟨g, m, none⟩ = some (.slice ai (lenOf rows m) ci) ∧ w.ownsRow B ti sz (.slice ai (lenOf rows m) ci) (lenOf rows m) (E (rowOf rows m)) ∧ V m = .slice ai (lenOf rows m) ci := by
  subst hl
  obtain ⟨g, h1, _, h2, _, h3, _⟩ := N.cell hm
  have hin : w.ownsRow B ti sz (V m) (lenOf rows m) (E (rowOf rows m)) := N.inner m hm
  obtain ⟨ai, ci, hV, _⟩ := own_form hin
  rw [hV] at h3 hin
  exact ⟨g, ai, ci, h1, h2, h3, hin, hV⟩

theorem ed_cells {w : World} {B n c : Nat} {a : Option Addr} {ds : List (Int × Int)} (h : w.ownsRow B 45 2 (.slice a n c) n (ED ds)) (hl : ds.length = n) {j : Nat} (hj : j < n) :
    ∃ g, a = some ⟨g, 0, none⟩ ∧ g < w.heap.size ∧ w.cell? ⟨g, j * 2, none⟩ = some (.int .i64 (nd ds j)) ∧ w.cell? ⟨g, j * 2 + 1, none⟩ = some (.int .i64 (sq ds j)) := by
  obtain ⟨g, e, _, hlt, _, hc, _⟩ := own_cell h (j := j * 2) (by omega)
  obtain ⟨g', e', _, _, _, hc', _⟩ := own_cell h (j := j * 2 + 1) (by omega)
  subst e
  cases e'
  refine ⟨g, rfl, hlt, ?_, ?_⟩
  · rw [hc, ED_get _ _ (by omega), dcell_even]
  · rw [hc', ED_get _ _ (by omega), dcell_odd]

theorem msgs_rel {w wo w2 : World} {M m : Nat} {id : Nat → ByteArray} {D : Nat → Nat} {dels : List (List (Int × Int))} {t : ByteArray} (hb : Below w.heap.size w wo) (HWB : Below wo.heap.size wo w2)
    (HD2 : w2.rowIs wo.heap.size 61 (lenOf dels m * 2) (dTo (lenOf dels m) (rowOf dels m))) (HMR : w2.rowIs w.heap.size 64 (M * 4) (mTo m id D (lenOf dels))) (HDS : ∀ i, i < m → w.heap.size < D i ∧ wo.rowIs (D i) 61 (lenOf dels i * 2) (dcell (rowOf dels i)))
    (hid : ∀ i, (id i).size ≤ 1048576) (ht : t.size ≤ 1048576) (lw : w.heap.size < wo.heap.size) (o : Obj) :
    (((((w2.setCell ⟨w.heap.size, m * 4, none⟩ (.string t)).setCell ⟨w.heap.size, m * 4 + 1, none⟩ (.int .i64 0)).setCell ⟨w.heap.size, m * 4 + 2, none⟩ (.int .i64 0)).setCell ⟨w.heap.size, m * 4 + 3, none⟩ (.slice (some ⟨wo.heap.size, 0, none⟩) (lenOf dels m) (lenOf dels m))).alloc o).rowIs w.heap.size 64 (M * 4)
      (mTo (m + 1) (upd id m t) (upd D m wo.heap.size) (lenOf dels)) ∧
    (∀ i, i < m + 1 → w.heap.size < upd D m wo.heap.size i ∧ (((((w2.setCell ⟨w.heap.size, m * 4, none⟩ (.string t)).setCell ⟨w.heap.size, m * 4 + 1, none⟩ (.int .i64 0)).setCell ⟨w.heap.size, m * 4 + 2, none⟩ (.int .i64 0)).setCell ⟨w.heap.size, m * 4 + 3, none⟩ (.slice (some ⟨wo.heap.size, 0, none⟩) (lenOf dels m) (lenOf dels m))).alloc o).rowIs (upd D m wo.heap.size i) 61 (lenOf dels i * 2) (dcell (rowOf dels i))) ∧
    (∀ i, (upd id m t i).size ≤ 1048576) ∧
    Below w.heap.size w (((((w2.setCell ⟨w.heap.size, m * 4, none⟩ (.string t)).setCell ⟨w.heap.size, m * 4 + 1, none⟩ (.int .i64 0)).setCell ⟨w.heap.size, m * 4 + 2, none⟩ (.int .i64 0)).setCell ⟨w.heap.size, m * 4 + 3, none⟩ (.slice (some ⟨wo.heap.size, 0, none⟩) (lenOf dels m) (lenOf dels m))).alloc o) := by
  have far : ∀ {b n : Nat} {f : Nat → Value}, w.heap.size < b → w2.rowIs b 61 n f → (((((w2.setCell ⟨w.heap.size, m * 4, none⟩ (.string t)).setCell ⟨w.heap.size, m * 4 + 1, none⟩ (.int .i64 0)).setCell ⟨w.heap.size, m * 4 + 2, none⟩ (.int .i64 0)).setCell ⟨w.heap.size, m * 4 + 3, none⟩ (.slice (some ⟨wo.heap.size, 0, none⟩) (lenOf dels m) (lenOf dels m))).alloc o).rowIs b 61 n f := by
    intro b n f hlt h
    have hne : b ≠ w.heap.size := by omega
    exact ((((h.setOther hne _).setOther hne _).setOther hne _).setOther hne _).alloc _
  refine ⟨?_, ?_, ?_, ?_⟩
  · exact (((((HMR.set (m * 4) _).set (m * 4 + 1) _).set (m * 4 + 2) _).set (m * 4 + 3) _).alloc o).congr fun i _ => mTo_step m wo.heap.size id D (lenOf dels) t i
  · intro i hi
    unfold upd
    by_cases h : i = m
    · subst h
      rw [if_pos rfl]
      exact ⟨lw, far lw (HD2.congr fun j hj => by unfold dTo; rw [if_pos hj])⟩
    · rw [if_neg h]
      obtain ⟨h1, h2⟩ := HDS i (by omega)
      exact ⟨h1, far h1 (row_below h2 HWB h2.lt)⟩
  · intro i
    unfold upd
    split
    · exact ht
    · exact hid i
  · have h2 : Below w.heap.size w w2 := hb.trans (HWB.mono hb.size)
    have := (((h2.setCell (p := ⟨w.heap.size, m * 4, none⟩) (Nat.le_refl _) (.string t)).setCell (p := ⟨w.heap.size, m * 4 + 1, none⟩) (Nat.le_refl _) (.int .i64 0)).setCell (p := ⟨w.heap.size, m * 4 + 2, none⟩) (Nat.le_refl _) (.int .i64 0)).setCell (p := ⟨w.heap.size, m * 4 + 3, none⟩) (Nat.le_refl _) (.slice (some ⟨wo.heap.size, 0, none⟩) (lenOf dels m) (lenOf dels m))
    exact this.alloc this.size _

set_option maxRecDepth 100000 in
set_option maxHeartbeats 4000000 in
theorem messages_any (B M c : Nat) (a : Option Addr) (dels : List (List (Int × Int))) (V : Nat → Value) (w : World) (N : Nest ED 43 45 2 B w (.slice a M c) dels V) (hM : dels.length = M) (hMs : M ≤ 65536) (hls : ∀ m, m < M → lenOf dels m ≤ 65536) :
    Calls Tryf.prog 11 #[.slice a M c] w fun e w' => ∃ mb id D, e = .returned (.slice (some ⟨mb, 0, none⟩) M M) ∧ MsgsOk w' mb id D dels ∧ w.heap.size ≤ mb ∧ Below w.heap.size w w' := by
  have HN : Hid _ := N
  clear N
  have hmk := make46 M (by omega)
  have HM : Hid _ := hM
  clear hM
  go_enter Tryf.func11, Tryf.ntmps11
  go_wp2
  clear hmk
  go_loopw [4] (fun vi wr => ∃ (m : Nat) (id : Nat → ByteArray) (D : Nat → Nat), m ≤ M ∧ vi = .int .i64 m ∧ wr.rowIs w.heap.size 64 (M * 4) (mTo m id D (lenOf dels)) ∧ (∀ i, i < m → w.heap.size < D i ∧ wr.rowIs (D i) 61 (lenOf dels i * 2) (dcell (rowOf dels i))) ∧ (∀ i, (id i).size ≤ 1048576) ∧ Below w.heap.size w wr)
    (fun vi _ => M - (intOf vi).toNat)
  case atStart => exact ⟨0, fun _ => ByteArray.empty, fun _ => 0, by omega, rfl, (made_row 64 _ w (M * 4)).congr (fun i _ => mTo_zero _ _ _ i), fun i hi => by omega, fun _ => Nat.zero_le _, (Below.refl _ _).alloc (Nat.le_refl _) _⟩
  case round =>
    obtain ⟨m, id, D, hm, rfl, hrow, hds, hid, hb⟩ := hrel
    obtain ⟨wo, rfl⟩ : ∃ x : World, x = wr := ⟨_, rfl⟩
    by_cases hmM : m < M
    · obtain ⟨g, ai, ci, rfl, hg, hgc, hin, _⟩ := nest_read (HN.out.below hb) HM.out hmM
      have hL := hls m hmM
      have hmk := make59 (lenOf dels m) (by omega)
      have HROW : Hid (wo.rowIs w.heap.size 64 (M * 4) (mTo m id D (lenOf dels))) := hrow
      have HDS : Hid _ := hds
      have HB : Hid _ := hb
      have HIN : Hid (wo.ownsRow B 45 2 (.slice ai (lenOf dels m) ci) (lenOf dels m) (ED (rowOf dels m))) := hin
      have lw := hrow.lt
      clear hrow hds hb hin
      go_wp2
      clear hmk
      go_loopw [6] (fun vj wr => ∃ j : Nat, j ≤ lenOf dels m ∧ vj = .int .i64 j ∧ wr.rowIs wo.heap.size 61 (lenOf dels m * 2) (dTo j (rowOf dels m)) ∧ Below wo.heap.size wo wr) (fun vj _ => lenOf dels m - (intOf vj).toNat)
      case atStart => exact ⟨0, by omega, rfl, (made_row 61 _ wo (lenOf dels m * 2)).congr (fun i _ => dTo_zero _ i), (Below.refl _ _).alloc (Nat.le_refl _) _⟩
      case round =>
        obtain ⟨j, hj, rfl, hdr, hbi⟩ := hrel
        obtain ⟨wi, rfl⟩ : ∃ x : World, x = wr := ⟨_, rfl⟩
        have hgc2 := (hbi.cell (World.block_lt_of_cell? _ _ hgc)).trans hgc
        have lg : g < wi.heap.size := Nat.lt_of_lt_of_le hg hbi.size
        have ld := hdr.lt
        by_cases hjl : j < lenOf dels m
        · obtain ⟨gi, rfl, hgi, k1, k2⟩ := ed_cells HIN.out rfl hjl
          have k1' := (hbi.cell (World.block_lt_of_cell? _ _ k1)).trans k1
          have k2' := (hbi.cell (World.block_lt_of_cell? _ _ k2)).trans k2
          have lgi : gi < wi.heap.size := Nat.lt_of_lt_of_le hgi hbi.size
          have d0 := hdr.cell (show j * 2 < lenOf dels m * 2 by omega)
          have d1 := hdr.cell (show j * 2 + 1 < lenOf dels m * 2 by omega)
          have f0 := hdr.frozen (j * 2)
          have f1 := hdr.frozen (j * 2 + 1)
          have y1 : (0 : Int) ≤ (m : Int) := by omega
          have y2 : (m : Int) < (M : Int) := by omega
          have y3 : (0 : Int) ≤ (j : Int) := by omega
          have y4 : (j : Int) < (lenOf dels m : Int) := by omega
          have ng : g ≠ wo.heap.size := by omega
          have ngi : gi ≠ wo.heap.size := by omega
          have HDR : Hid (wi.rowIs wo.heap.size 61 (lenOf dels m * 2) (dTo j (rowOf dels m))) := hdr
          have HBI : Hid _ := hbi
          clear hdr hbi k1 k2 hgc
          go_wp2
          go_region_held3 (fun w' => w'.cell? ⟨g, m, none⟩ = some (.slice (some ⟨gi, 0, none⟩) (lenOf dels m) ci) ∧ w'.cell? ⟨gi, j * 2, none⟩ = some (.int .i64 (nd (rowOf dels m) j)) ∧ w'.cell? ⟨gi, j * 2 + 1, none⟩ = some (.int .i64 (sq (rowOf dels m) j)))
            (first | exact ⟨store2_far hgc2 ng, store2_far k1' ngi, store2_far k2' ngi⟩ | go_keep)
            ((go_at_call 16; refine (newDelivery_any _ _ _).mono ?_; rintro e w6 ⟨rfl, rfl⟩))
          go_wp2
          go_roundw
          case rel =>
            refine ⟨j + 1, by omega, by go_num, ?_, ?_⟩
            · exact ((((HDR.out.set (j * 2) _).set (j * 2 + 1) _).alloc _).drew).congr (fun i _ => dTo_step j _ i)
            · exact (((HBI.out.setCell (Nat.le_refl _) _).setCell (Nat.le_refl _) _).alloc (by simpa [World.setCell] using HBI.out.size) _).drew
          case measure => simp [intOf]; omega
        · obtain rfl : j = lenOf dels m := by omega
          have HDR : Hid (wi.rowIs wo.heap.size 61 (lenOf dels m * 2) (dTo (lenOf dels m) (rowOf dels m))) := hdr
          have HBI : Hid (Below wo.heap.size wo wi) := hbi
          clear hdr hbi
          go_wp2_with fail
          refine (itoa_any m (by omega) wi).mono ?_
          rintro e w2 ⟨⟨t, rfl, ht⟩, hb2⟩
          have hwb : Below wo.heap.size wo w2 := HBI.out.trans (hb2.mono HBI.out.size)
          have HWB : Hid (Below wo.heap.size wo w2) := hwb
          have HD2 : Hid (w2.rowIs wo.heap.size 61 (lenOf dels m * 2) (dTo (lenOf dels m) (rowOf dels m))) := row_below HDR.out hb2 HDR.out.lt
          have mr : w2.rowIs w.heap.size 64 (M * 4) (mTo m id D (lenOf dels)) := row_below HROW.out hwb lw
          have l2 := mr.lt
          have HMR : Hid (w2.rowIs w.heap.size 64 (M * 4) (mTo m id D (lenOf dels))) := mr
          have c0 := mr.cell (show m * 4 < M * 4 by omega)
          have c1 := mr.cell (show m * 4 + 1 < M * 4 by omega)
          have c2 := mr.cell (show m * 4 + 2 < M * 4 by omega)
          have c3 := mr.cell (show m * 4 + 3 < M * 4 by omega)
          have z0 := mr.frozen (m * 4)
          have z1 := mr.frozen (m * 4 + 1)
          have z2 := mr.frozen (m * 4 + 2)
          have z3 := mr.frozen (m * 4 + 3)
          clear hb2 hwb mr
          go_wp2_with fail
          refine (newMessage_any _ _ _ _ _).mono ?_
          rintro e w3 ⟨rfl, rfl⟩
          go_wp2
          go_roundw
          case rel =>
            obtain ⟨h1, h2, h3, h4⟩ := msgs_rel (t := ⟨#[109]⟩ ++ t) HB.out HWB.out HD2.out HMR.out HDS.out hid (by rw [ByteArray.size_append]; have : (⟨#[109]⟩ : ByteArray).size = 1 := rfl; omega) lw _
            exact ⟨m + 1, _, _, by omega, by go_num, h1, h2, h3, h4⟩
          case measure => simp [intOf]; omega
    · obtain rfl : m = M := by omega
      go_wp2
      go_ret
      have e : dels.length = m := HM.out
      refine ⟨w.heap.size, id, D, rfl, ⟨?_, fun i hi => (hds i (by omega)).2, hid⟩, Nat.le_refl _, hb⟩
      rw [e]
      exact hrow.congr fun i hi => by unfold mTo; rw [if_pos hi]
end Go.Proofs.Qxb6616309aFmt
