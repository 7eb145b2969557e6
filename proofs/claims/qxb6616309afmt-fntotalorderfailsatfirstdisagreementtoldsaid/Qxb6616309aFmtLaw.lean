/-
  THE WALK of the law.
-/
import Derived.Test.Qxb6616309aFmtTurn
import Derived.Deep.CutBlock
namespace Go.Proofs.Qxb6616309aFmt
open Go.RowKit

set_option maxRecDepth 100000 in
set_option maxHeartbeats 8000000 in
theorem law_any (a a' : Option Addr) (n c k c' : Nat) (N : Nat → ByteArray) (x y : Nat → Int) (w : World) (hT : Talks w) (hn : n ≤ maxLen) (hk : k ≤ maxLen) (ha : a = none → n = 0) (hkc : k ≤ c') (hS : Strs w a n N) (hR : RdI w a' k x y) :
    Calls Tryf.prog 3 #[.slice a n c, .slice a' k c'] w fun e w' => e = .returned (.bool true) ∧ Below w.heap.size w w' := by
  have HT : Hid (Talks w) := hT
  have HS : Hid (Strs w a n N) := hS
  have HR : Hid (RdI w a' k x y) := hR
  have HA : Hid (a = none → n = 0) := ha
  have HN : Hid (n ≤ maxLen) := hn
  have HK : Hid (k ≤ maxLen) := hk
  unfold maxLen at hn hk
  clear hT hS hR ha
  go_enter Tryf.func3, Tryf.ntmps3
  go_wp2_with fail
  refine (bytes_any a a' n c k c' N w HN.out HK.out HS.out).mono ?_
  rintro e w1 ⟨⟨b, rfl, hby⟩, rfl⟩
  cases b with
  | false =>
    clear hby
    go_wp2
    go_ret
    exact ⟨rfl, Below.refl _ _⟩
  | true =>
  have HSZ : Hid (∀ j, j < n → (N j).size ≤ 1048576) := hby rfl
  clear hby
  by_cases h1 : n ≤ 65536
  rotate_left
  · go_wp2
    go_ret
    exact ⟨rfl, Below.refl _ _⟩
  by_cases h2 : k ≤ 65536
  rotate_left
  · go_wp2
    go_ret
    exact ⟨rfl, Below.refl _ _⟩
  by_cases h3 : 16 * n + 16 * k ≤ 1048576
  rotate_left
  · go_wp2
    go_ret
    exact ⟨rfl, Below.refl _ _⟩
  go_wp2
  clear HN HK hn hk
  go_loop [5, 6] (fun vz vi => ∃ i z : Nat, i ≤ n ∧ z ≤ 1048576 ∧ vi = .int .i64 i ∧ vz = .int .i64 z) (fun _ vi => n - (intOf vi).toNat)
  case atStart => exact ⟨0, 16 * n + 16 * k, by omega, h3, rfl, by go_num⟩
  case round =>
    obtain ⟨i, z, hi, hz, rfl, rfl⟩ := hrel
    by_cases hin : i < n
    · obtain ⟨b, off, rfl, hlt, hc⟩ := HS.out i hin
      have ci := hc i hin
      have h5 := HSZ.out i hin
      clear hc HS
      by_cases h4 : z + (N i).size ≤ 1048576
      · go_wp2
        go_round
        case rel => exact ⟨i + 1, z + (N i).size, by omega, h4, by go_num, by go_num⟩
        case measure => simp [intOf]; omega
      · go_wp2
        go_ret
        exact ⟨rfl, Below.refl _ _⟩
    · by_cases h6 : n ≤ 256
      rotate_left
      · go_wp2
        go_ret
        exact ⟨rfl, Below.refl _ _⟩
      by_cases h7 : k ≤ 256
      rotate_left
      · go_wp2
        go_ret
        exact ⟨rfl, Below.refl _ _⟩
      go_wp2
      go_loop [7] (fun vi => ∃ j : Nat, j ≤ k ∧ vi = .int .i64 j ∧ ∀ j', j' < j → 0 ≤ x j' ∧ x j' < (n : Int) ∧ 0 ≤ y j' ∧ y j' < 256) (fun vi => k - (intOf vi).toNat)
      case atStart => exact ⟨0, by omega, rfl, fun j hj => by omega⟩
      case round =>
        obtain ⟨j, hj, rfl, hrg⟩ := hrel
        by_cases hjk : j < k
        · obtain ⟨b, off, rfl, hlt, hc⟩ := HR.out j hjk
          obtain ⟨cx, cy⟩ := hc j hjk
          have HRG : Hid _ := hrg
          clear hc HR hrg
          by_cases q1 : x j < 0
          · go_wp2
            go_ret
            exact ⟨rfl, Below.refl _ _⟩
          by_cases q2 : (n : Int) ≤ x j
          · go_wp2
            go_ret
            exact ⟨rfl, Below.refl _ _⟩
          by_cases q3 : y j < 0
          · go_wp2
            go_ret
            exact ⟨rfl, Below.refl _ _⟩
          by_cases q4 : 256 ≤ y j
          · go_wp2
            go_ret
            exact ⟨rfl, Below.refl _ _⟩
          go_wp2
          go_round
          case rel => exact ⟨j + 1, by omega, by go_num, upto_succ HRG.out ⟨by omega, by omega, by omega, by omega⟩⟩
          case measure => simp [intOf]; omega
        · have HX : Hid (∃ f g : Nat → Nat, RdS w1 a' k f g ∧ (∀ i, i < k → f i < n) ∧ (∀ i, i < k → g i < 256)) := by
            refine ⟨fun i => (x i).toNat, fun i => (y i).toNat, rds_of HR.out (fun i hi => (hrg i (by omega)).1) (fun i hi => (hrg i (by omega)).2.2.1), fun i hi => ?_, fun i hi => ?_⟩
            · have := hrg i (by omega); show (x i).toNat < n; omega
            · have := hrg i (by omega); show (y i).toNat < 256; omega
          obtain ⟨f, g, hrs, hf, hg⟩ := HX.out
          have HRS : Hid (RdS w1 a' k f g) := hrs
          have HF : Hid (∀ i, i < k → f i < n) := hf
          have HG : Hid (∀ i, i < k → g i < 256) := hg
          clear hrg HR hrs hf hg HX
          go_wp2_with fail
          refine (clone2_any a n c N w1 h1 HA.out HS.out HSZ.out).mono ?_
          rintro e w2 ⟨a0, c0, N0, rfl, hnd, hb2⟩
          have HND : Hid (NodesOk w2 a0 n N0) := hnd
          have HB2 : Hid (Below w1.heap.size w1 w2) := hb2
          clear hnd hb2 HSZ HS HA
          have hal := zero28
          go_wp2
          clear hal
          go_loopw [10] (fun vi wr => ∃ i : Nat, i ≤ 256 ∧ vi = .int .i64 i ∧ wr.rowIs w2.heap.size 28 256 (fun j => .int .i64 (if j < i then -1 else 0)) ∧ Below w2.heap.size w2 wr) (fun vi _ => 256 - (intOf vi).toNat)
          case atStart => exact ⟨0, by omega, rfl, World.rowIs_alloc w2 (Array.replicate 256 (.int .i64 0)) 28 _ (fun i hi => by simp at hi; simp [hi]), (Below.refl _ _).alloc (Nat.le_refl _) _⟩
          case round =>
            obtain ⟨s, hs, rfl, hrow, hb⟩ := hrel
            obtain ⟨w3, rfl⟩ : ∃ x : World, x = wr := ⟨_, rfl⟩
            by_cases hs2 : s < 256
            · have ci := hrow.cell hs2
              have fi := hrow.frozen s
              go_wp2
              go_roundw
              case rel => exact ⟨s + 1, by omega, by go_num, (hrow.set s _).congr (fun j _ => neg_step s j), hb.setCell (Nat.le_refl _) _⟩
              case measure => simp [intOf]; omega
            · have HROW : Hid (w3.rowIs w2.heap.size 28 256 (fun j => .int .i64 ((plAt g 0).of j))) := hrow.congr fun j hj => by rw [if_pos (by omega)]; rfl
              have HB3 : Hid (Below w1.heap.size w1 w3) := HB2.out.trans (hb.mono HB2.out.size)
              have HND3 : Hid (NodesOk w3 a0 n N0) := HND.out.below hb
              have HP : Hid (w1.heap.size ≤ w2.heap.size) := HB2.out.size
              have lp := hrow.lt
              clear hrow hb HB2 HND hs
              go_wp2_with fail
              clear hs2
              refine (newBroadcasts_any a0 none n c0 0 0 none (-1) (-1) 0 _).mono ?_
              rintro e w4 ⟨rfl, hw4⟩
              have HB4 : Hid (Below w3.heap.size w3 w4) := by rw [hw4]; exact (Below.refl _ _).alloc (Nat.le_refl _) _
              have HC6 : Hid (w4.cell? ⟨w3.heap.size, 6, none⟩ = some (.int .i64 (-1))) := by rw [hw4]; exact World.cell?_alloc_at _ _ _ _ rfl
              clear hw4
              go_wp2_with fail
              refine (newTotal_any _ _ w3.heap.size none 0 0 _ rfl rfl).mono ?_
              rintro e w5 ⟨rfl, hw5⟩
              have HB5 : Hid (Below w3.heap.size w3 w5) := HB4.out.trans (by rw [hw5]; exact (Below.refl _ _).alloc HB4.out.size _)
              have lc := World.block_lt_of_cell? _ _ HC6.out
              have HC65 : Hid (w5.cell? ⟨w3.heap.size, 6, none⟩ = some (.int .i64 (-1))) := by
                rw [hw5]
                exact (cell_alloc_past _ _ _ lc).trans HC6.out
              have HTR : Hid (w5.rowIs w4.heap.size 53 2 (tcell w3.heap.size (.slice none 0 0))) := by
                rw [hw5]
                refine World.rowIs_alloc w4 _ 53 _ (fun i hi => ?_)
                have hi : i < 2 := hi
                match i, hi with
                | 0, _ => rfl
                | 1, _ => rfl
              clear hw5 HB4 HC6
              go_wp2_with fail
              refine (start_any w4.heap.size w3.heap.size n c0 a0 _ _ (by omega) HTR.out HC65.out (by omega)).mono ?_
              rintro e w6 ⟨rfl, ob, hob, htr, hor, hk6⟩
              have HTR6 : Hid (w6.rowIs w4.heap.size 53 2 (tcell w3.heap.size (.slice (some ⟨ob, 0, none⟩) n n))) := htr
              have HOR6 : Hid (w6.rowIs ob 58 n (fun _ => .slice none 0 0)) := hor
              have HB6 : Hid (Below w3.heap.size w3 w6) := HB5.out.trans (hk6.below HB5.out.size (fun k h => by omega))
              have HOB : Hid (w3.heap.size ≤ ob) := Nat.le_trans HB5.out.size hob
              clear htr hor hk6 hob HB5 HC65 HTR lc
              go_wp2_with fail
              refine (ordersOf_any w4.heap.size w3.heap.size (some ⟨ob, 0, none⟩) n n _ HTR6.out).mono ?_
              rintro e w7 ⟨rfl, rfl⟩
              have hmk := make40 n (by omega)
              go_wp2_with fail
              clear hmk
              refine (same_any n n n _ _ (List.replicate n []) _ (rdn_nil (HOR6.out.alloc _)) (rdn_nil (World.rowIs_made w7 _ n 58)) (by omega)).mono ?_
              rintro e w8 ⟨rfl, hb8⟩
              have hb78 : Below w7.heap.size w7 w8 := ((Below.refl _ w7).alloc (Nat.le_refl _) _).trans (hb8.mono (by simp))
              have HSt : Hid (St w1.heap.size w1 w8 a0 N0 w2.heap.size ob n 0 f g none 0) := by
                have b38 : Below w3.heap.size w3 w8 := HB6.out.trans (hb78.mono HB6.out.size)
                refine ⟨HND3.out.below b38, row_below HROW.out b38 lp, ⟨[], fun _ => .slice none 0 0, ⟨World.ownsRow_nil _ _ _ _, fun i hi => by simp at hi, fun i j hi => by simp at hi⟩, Inv.start n⟩, ⟨_, nest_made (row_below HOR6.out hb78 HOR6.out.lt) (Nat.le_trans HB3.out.size HOB.out) (by omega)⟩, agree_nil f g n, HB3.out.trans (b38.mono HB3.out.size)⟩
              clear hb8 hb78 HOR6 HROW HND3 HB3 HB6 HTR6
              go_upto_block 6 with fail
              go_cut [11, 12, 13, 14, 15] (fun v11 v12 v13 v14 v15 wc => ∃ r : Nat, v14 = .int .i64 r ∧ v13 = .slice (some ⟨ob, 0, none⟩) n n ∧ Done w1.heap.size w1 wc ob n k r f g)
              case first =>
                go_wp2_with fail
                go_loopw [11, 12, 13, 14, 15] (fun v11 v12 v13 v14 v15 wr => ∃ (t : Nat) (ad : Option Addr) (cd tb : Nat), t ≤ k ∧ v15 = .int .i64 t ∧ v14 = .int .i64 ((k : Int) + 1) ∧ v13 = .slice (some ⟨ob, 0, none⟩) n n ∧ v12 = .pointer (some ⟨tb, 0, none⟩) ∧ v11 = .slice ad (plAt g t).nx cd ∧ St w1.heap.size w1 wr a0 N0 w2.heap.size ob n t f g ad cd) (fun _ _ _ _ v15 _ => k - (intOf v15).toNat)
                case atStart => exact ⟨0, none, 0, _, by omega, rfl, rfl, rfl, rfl, rfl, HSt.out⟩
                case round =>
                  clear HSt
                  obtain ⟨t, ad, cd, tb, ht, rfl, rfl, rfl, rfl, rfl, hst⟩ := hrel
                  obtain ⟨wo, rfl⟩ : ∃ x : World, x = wr := ⟨_, rfl⟩
                  have HST : Hid (St w1.heap.size w1 wo a0 N0 w2.heap.size ob n t f g ad cd) := hst
                  by_cases htk : t < k
                  · obtain ⟨b, off, rfl, hlt, hc⟩ := (RdS.below HRS.out hst.below) t htk
                    obtain ⟨e1, e2⟩ := hc t htk
                    have hgt := HG.out t htk
                    have hft := HF.out t htk
                    have cg := hst.pl.cell hgt
                    have fg := hst.pl.frozen (g t)
                    have lo := hst.pl.lt
                    have rg := plAt_range g t
                    have rg1 := plAt_range g (t + 1)
                    clear hc hst
                    go_upto_if 149 with fail
                    go_cut [11, 17] (fun v11 v17 wc => ∃ (ad1 : Option Addr) (cd1 : Nat), v17 = .int .i64 (plOf g t : Nat) ∧ v11 = .slice ad1 (plAt g (t + 1)).nx cd1 ∧ Mid w1.heap.size (wo.alloc (.cells #[.int .i64 (f t : Nat), .int .i64 (g t : Nat)] 26)) wc w2.heap.size n t f g ad1 cd1)
                    case first =>
                      by_cases hp : (plAt g t).of (g t) < 0
                      · obtain ⟨q1, q2⟩ := pl_new hp
                        have HQ1 : Hid _ := q1
                        have HQ2 : Hid _ := q2
                        clear q1 q2 rg1
                        obtain ⟨ds, V, hN, hI⟩ := HST.out.dels
                        have HNE : Hid (Nest ED 43 45 2 w1.heap.size wo (.slice ad (plAt g t).nx cd) ds V) := hN
                        have HI : Hid (Inv n t (plAt g t).nx ds (ordAt f g n t)) := hI
                        have HOUT : Hid ((wNew wo w2.heap.size (g t) (plAt g t).nx (f t)).ownsRow w1.heap.size 43 1 (.slice ad (plAt g t).nx cd) (plAt g t).nx ((List.range (plAt g t).nx).map V)) := by
                          have := (nest_wnew (gt := g t) (nx := (plAt g t).nx) (ft := f t) hN HST.out.pl).outer
                          rw [hI.dlen] at this
                          exact this
                        have hsx : (wNew wo w2.heap.size (g t) (plAt g t).nx (f t)).heap.size = wo.heap.size + 1 := by simp [World.setCell]
                        have HBLK : Hid (((wNew wo w2.heap.size (g t) (plAt g t).nx (f t)).alloc (.cells #[.slice none 0 0] 43)).heap[wo.heap.size + 1]? = some (.cells #[.slice none 0 0] 43 (0, 0))) := by
                          have := heap_alloc_new (wNew wo w2.heap.size (g t) (plAt g t).nx (f t)) (.cells #[.slice none 0 0] 43)
                          rw [hsx] at this
                          exact this
                        have hwb : w1.heap.size ≤ wo.heap.size := HST.out.below.size
                        clear hN hI hsx
                        obtain ⟨i0, hi0, hz0, hz1, hz2⟩ := info_parts z43
                        go_wp2_with (at_builtin; refine wpList_append_old _ (by rfl) _ _ 29 (by rfl) w1.heap.size 43 i0 _ 1 24 Tryf.underlying29 hi0 hz0 hz1 hz2 rfl (by omega) (.slice ad (plAt g t).nx cd) (plAt g t).nx ((List.range (plAt g t).nx).map V) (by rfl) (HOUT.out.alloc _) ⟨wo.heap.size + 1, 0, none⟩ 1 1 [.slice none 0 0] (by rfl) (by rfl) (World.news_of_block (cs := #[.slice none 0 0]) (t := 43) (fr := (0, 0)) HBLK.out) (by intro u hu; simp at hu; subst hu; rfl) (by unfold maxLen; omega) (by omega) (by simp [World.setCell]; omega) ?_; intro a5 c5 w5 hown5 hgrow5 hat5 hold5)
                        go_meet
                        case rel => exact ⟨a5, c5, by rw [HQ2.out], by rw [HQ1.out], mid_new HST.out hp HP.out HNE.out HI.out hown5 hgrow5⟩
                      · obtain ⟨q1, q2⟩ := pl_old hp
                        have HQ1 : Hid _ := q1
                        have HQ2 : Hid _ := q2
                        clear q1 q2 rg1
                        go_wp2
                        go_meet
                        case rel => exact ⟨ad, cd, by rw [HQ2.out], by rw [HQ1.out], mid_old HST.out (by omega)⟩
                    case rest =>
                      obtain ⟨ad1, cd1, rfl, rfl, hmid⟩ := hcut
                      obtain ⟨wm, rfl⟩ : ∃ x : World, x = wc := ⟨_, rfl⟩
                      have HMID : Hid (Mid w1.heap.size (wo.alloc (box26 (f t) (g t))) wm w2.heap.size n t f g ad1 cd1) := hmid
                      have s0 : wm.cell? ⟨wo.heap.size, 0, none⟩ = some (.int .i64 (f t : Nat)) := hmid.box.cell (i := 0) (by decide)
                      have ls := hmid.box.lt
                      have hml := (plOf_lt g t).1
                      obtain ⟨ds, V, hN, hI⟩ := hmid.dels
                      obtain ⟨db, ai, ci, edb, hdb, hdc, hin, hVm⟩ := nest_read hN hI.dlen hml
                      subst edb
                      have hl := hI.dlens (plOf g t)
                      have HNE : Hid (Nest ED 43 45 2 w1.heap.size wm (.slice (some ⟨db, 0, none⟩) (plAt g (t + 1)).nx cd1) ds V) := hN
                      have HI : Hid (Inv n t (plAt g (t + 1)).nx ds (ordAt f g n t)) := hI
                      have HIN : Hid (wm.ownsRow w1.heap.size 45 2 (.slice ai (lenOf ds (plOf g t)) ci) (lenOf ds (plOf g t)) (ED (rowOf ds (plOf g t)))) := hin
                      have HVM : Hid _ := hVm
                      have HE1 : Hid _ := e1
                      have y1 : (0 : Int) ≤ (plOf g t : Int) := by omega
                      have y2 : (plOf g t : Int) < ((plAt g (t + 1)).nx : Int) := by omega
                      clear hN hI hmid hin hVm e1 e2 cg fg
                      go_upto_block 8 with fail
                      go_cut [19, 20] (fun v19 v20 wc => (∃ z : Int, v19 = .int .i64 z ∧ Scan ds (plOf g t) (f t) z) ∧ Below wm.heap.size wm wc)
                      case first =>
                        go_wp2_with fail
                        go_loopw [19, 20] (fun v19 v20 wr => ∃ j : Nat, j ≤ lenOf ds (plOf g t) ∧ v20 = .int .i64 j ∧ v19 = .int .i64 (-1) ∧ Below wm.heap.size wm wr ∧ ∀ j', j' < j → nd (rowOf ds (plOf g t)) j' ≠ (f t : Int)) (fun _ v20 _ => lenOf ds (plOf g t) - (intOf v20).toNat)
                        case atStart => exact ⟨0, by omega, rfl, rfl, Below.refl _ _, fun j hj => by omega⟩
                        case round =>
                          obtain ⟨j1, hj1, rfl, rfl, hb, hno⟩ := hrel
                          obtain ⟨wi, rfl⟩ : ∃ x : World, x = wr := ⟨_, rfl⟩
                          have d1 := (hb.cell (p := ⟨db, plOf g t, none⟩) hdb).trans hdc
                          have s1 := (hb.cell (p := ⟨wo.heap.size, 0, none⟩) ls).trans s0
                          have HBI : Hid (Below wm.heap.size wm wi) := hb
                          have HNO : Hid _ := hno
                          by_cases hjl : j1 < lenOf ds (plOf g t)
                          · obtain ⟨g0, eg, hg0, hc0, _⟩ := ed_cells HIN.out rfl hjl
                            subst eg
                            have e0 := (hb.cell (p := ⟨g0, j1 * 2, none⟩) hg0).trans hc0
                            have y3 : (0 : Int) ≤ (j1 : Int) := by omega
                            have y4 : (j1 : Int) < (lenOf ds (plOf g t) : Int) := by omega
                            clear hb hno hdc s0 hc0
                            by_cases heq : nd (rowOf ds (plOf g t)) j1 = (f t : Int)
                            · have hbq : (nd (rowOf ds (plOf g t)) j1 == (f t : Int)) = true := by simp [heq]
                              have HEQ : Hid _ := heq
                              clear heq
                              go_wp2
                              go_quiet (fail)
                              go_wp2
                              go_meet
                              case rel => exact ⟨⟨_, rfl, Or.inr ⟨j1, rfl, hjl, HEQ.out⟩⟩, bdrewN HBI.out _⟩
                            · have hbq : (nd (rowOf ds (plOf g t)) j1 == (f t : Int)) = false := by simpa using heq
                              have HEQ : Hid _ := heq
                              clear heq
                              go_wp2
                              go_quiet (fail)
                              go_wp2
                              go_roundw
                              case rel => exact ⟨j1 + 1, by omega, by go_num, rfl, bdrewN HBI.out _, upto_succ HNO.out HEQ.out⟩
                              case measure => simp [intOf]; omega
                          · clear hb hno
                            go_wp2
                            go_meet
                            case rel => exact ⟨⟨-1, rfl, Or.inl ⟨rfl, fun j h => HNO.out j (by have := h.1; omega) h.2⟩⟩, HBI.out⟩
                      case rest =>
                        obtain ⟨⟨z1, rfl, hscan⟩, hb4⟩ := hcut
                        obtain ⟨w4, rfl⟩ : ∃ x : World, x = wc := ⟨_, rfl⟩
                        have d4 := (hb4.cell (p := ⟨db, plOf g t, none⟩) hdb).trans hdc
                        have s4 := (hb4.cell (p := ⟨wo.heap.size, 0, none⟩) ls).trans s0
                        have HB4 : Hid (Below wm.heap.size wm w4) := hb4
                        have HSC : Hid _ := hscan
                        have ls4 : wo.heap.size < w4.heap.size := Nat.lt_of_lt_of_le ls hb4.size
                        have ld4 : db < w4.heap.size := Nat.lt_of_lt_of_le hdb hb4.size
                        clear hb4 hdc s0 hscan
                        go_upto_if 183 with fail
                        go_cut [19] (fun v19 wc => ∃ fs : Nat, v19 = .int .i64 fs ∧ Late w1.heap.size w4 wc n t (plOf g t) fs (f t) f g (some ⟨db, 0, none⟩) cd1)
                        case first =>
                          rcases HSC.out with ⟨rfl, hno⟩ | ⟨fs, rfl, hd⟩
                          · have HNO : Hid (∀ j, ¬ DelAt ds (plOf g t) (f t) j) := hno
                            have HIN4 : Hid (w4.ownsRow w1.heap.size 45 2 (.slice ai (lenOf ds (plOf g t)) ci) (lenOf ds (plOf g t)) (ED (rowOf ds (plOf g t)))) := own_keep (S := fun _ => False) (Keep.of_below HB4.out) HIN.out (fun _ _ h => h)
                            have HN4 : Hid (Nest ED 43 45 2 w1.heap.size w4 (.slice (some ⟨db, 0, none⟩) (plAt g (t + 1)).nx cd1) ds V) := HNE.out.below HB4.out
                            have of : w4.frozen? ⟨db, plOf g t, none⟩ = false := by
                              obtain ⟨g0, hg0, _, _, _, _, h⟩ := Nest.cell (a := some ⟨db, 0, none⟩) (by rw [HI.out.dlen]; exact HN4.out) (i := plOf g t) (by rw [HI.out.dlen]; exact hml)
                              cases hg0
                              exact h
                            have far1 : (Value.slice ai (lenOf ds (plOf g t)) ci).ownBlock ≠ some wo.heap.size := fun e => by
                              have hbx4 := row_below HMID.out.box HB4.out HMID.out.box.lt
                              exact row_notin (T := [45]) hbx4 (by decide) (own_in HIN4.out (by simp) _ e)
                            have far3 : (Value.slice ai (lenOf ds (plOf g t)) ci).ownBlock ≠ some db := fun e => by
                              obtain ⟨c1, t1, f1, e1, m1⟩ := own_in (T := [43]) HN4.out.outer (by simp) db rfl
                              obtain ⟨c2, t2, f2, e2, m2⟩ := own_in (T := [45]) HIN4.out (by simp) _ e
                              rw [e1] at e2
                              cases e2
                              simp at m1 m2
                              rw [m1] at m2
                              exact absurd m2 (by decide)
                            have hw4 : w1.heap.size ≤ w4.heap.size := by
                              have h1 := HST.out.below.size
                              omega
                            obtain ⟨i0, hi0, hz0, hz1, hz2⟩ := info_parts z45
                            clear hno
                            go_wp2
                            go_region_law
                              ((refine step_append_old (by rfl) _ _ _ (by rfl) w1.heap.size 45 i0 _ 2 16 Tryf.underlying43 hi0 hz0 hz1 hz2 rfl (by omega) (.slice ai (lenOf ds (plOf g t)) ci) (lenOf ds (plOf g t)) (ED (rowOf ds (plOf g t))) (by rfl) ((HIN4.out.alloc _).drew)
                                    ⟨w4.heap.size, 0, none⟩ 1 1 [.int .i64 (f t : Nat), .int .i64 ((t : Int) + 2)] (by rfl) (by rfl) (World.news_of_block (cs := #[.int .i64 (f t : Nat), .int .i64 ((t : Int) + 2)]) (t := 45) (fr := (0, 0)) (heap_alloc_new w4 _)) (by intro u hu; simp at hu; rcases hu with rfl | rfl <;> rfl)
                                    (by unfold maxLen; omega) (by omega) (by simp; omega) ?_; intro a5 c5 w5 hown5 hgrow5 hat5 hold5;
                                have oc2 : w5.cell? ⟨db, plOf g t, none⟩ = some (.slice ai (lenOf ds (plOf g t)) ci) := ((hgrow5.cell_far ⟨db, plOf g t, none⟩ (by simp; omega) (Ne.symm far3)).trans ((cell_alloc_past w4 _ ⟨db, plOf g t, none⟩ ld4).trans d4));
                                have of2 : w5.frozen? ⟨db, plOf g t, none⟩ = false := ((hgrow5.frozen_far ⟨db, plOf g t, none⟩ (by simp; omega) (Ne.symm far3)).trans ((frozen_alloc_past w4 _ ⟨db, plOf g t, none⟩ ld4).trans of));
                                have s02 : w5.cell? ⟨wo.heap.size, 0, none⟩ = some (.int .i64 (f t : Nat)) := ((hgrow5.cell_far ⟨wo.heap.size, 0, none⟩ (by simp; omega) (Ne.symm far1)).trans ((cell_alloc_past w4 _ ⟨wo.heap.size, 0, none⟩ ls4).trans s4))))
                            all_goals
                              go_wp2
                              go_meet
                              case rel => exact ⟨lenOf ds (plOf g t), by go_num, late_new HN4.out HI.out hft rfl rfl HNO.out HVM.out hown5 hgrow5 hat5⟩
                          · have HD1 : Hid (DelAt ds (plOf g t) (f t) fs) := hd
                            clear hd
                            go_wp2
                            go_meet
                            case rel => exact ⟨fs, rfl, late_again (HNE.out.below HB4.out) HI.out hft rfl rfl HD1.out⟩
                        case rest =>
                          obtain ⟨fs, rfl, hlate⟩ := hcut
                          obtain ⟨w5, rfl⟩ : ∃ x : World, x = wc := ⟨_, rfl⟩
                          have HAH : Hid (Ahead w1.heap.size w1 w5 a0 N0 w2.heap.size ob wo.heap.size n t (plOf g t) fs (f t) f g (some ⟨db, 0, none⟩) cd1) := ahead_mk HST.out HMID.out HB4.out hlate HST.out.below.size
                          clear hlate d4 s4 HSC HB4 HIN HNE HI HVM HMID hl ls ls4 ld4 hdb ci ai V ds
                          obtain ⟨ds, V, hN, hTo⟩ := HAH.out.dels
                          have HN5 : Hid (Nest ED 43 45 2 w1.heap.size w5 (.slice (some ⟨db, 0, none⟩) (plAt g (t + 1)).nx cd1) ds V) := hN
                          have HTO : Hid (Told n t (plAt g (t + 1)).nx (f t) (plOf g t) fs ds (ordAt f g n t) (ordAt f g n (t + 1))) := hTo
                          have HDL : Hid (∀ m, m < (plAt g (t + 1)).nx → lenOf ds m ≤ 65536) := fun m _ => by have := hTo.inv.dlens m; omega
                          obtain ⟨nb, hnb, _⟩ := HAH.out.names (f t) hft
                          subst hnb
                          clear hN hTo
                          go_wp2_with fail
                          refine (messages_any w1.heap.size (plAt g (t + 1)).nx cd1 _ ds V _ HN5.out HTO.out.inv.dlen (by omega) HDL.out).mono ?_
                          rintro e w6 ⟨mb, id, D, rfl, hmsg, hmb, hb6⟩
                          have HMS : Hid (MsgsOk w6 mb id D ds) := hmsg
                          have HB6 : Hid (Below w5.heap.size w5 w6) := hb6
                          clear hmsg hb6 hmb
                          go_wp2_with fail
                          refine (index_any w1.heap.size (plAt g (t + 1)).nx cd1 _ ds V _ (HN5.out.below HB6.out) HTO.out.inv.dlen (by omega) HDL.out).mono ?_
                          rintro e w7 ⟨I, ps, rfl, hidx, hb7⟩
                          have HIX : Hid (IdxTo w7 w6.heap.size (plAt g (t + 1)).nx ds I ps) := hidx
                          have HB7 : Hid (Below w6.heap.size w6 w7) := hb7
                          clear hidx hb7
                          go_wp2_with fail
                          refine (newBroadcasts_any (some ⟨nb, 0, none⟩) (some ⟨mb, 0, none⟩) n c0 (plAt g (t + 1)).nx (plAt g (t + 1)).nx (some w6.heap.size) (-1) (plOf g t : Nat) (fs : Nat) _).mono ?_
                          rintro e w10 ⟨rfl, hw10⟩
                          have HBC : Hid (Bc w10 w7.heap.size (.slice (some ⟨nb, 0, none⟩) n c0) _ ds (plAt g (t + 1)).nx (plOf g t) fs) := bc_mk HMS.out HB7.out HIX.out HTO.out.inv.dlen (by omega) HDL.out hw10
                          have HB10 : Hid (Below w5.heap.size w5 w10) := (HB6.out.trans (HB7.out.mono HB6.out.size)).trans (by rw [hw10]; exact (Below.refl _ _).alloc (Nat.le_trans HB6.out.size HB7.out.size) _)
                          clear hw10 HB7 HIX HB6
                          go_wp2_with fail
                          refine (newTotal_any _ _ w7.heap.size (some ⟨ob, 0, none⟩) n n _ rfl rfl).mono ?_
                          rintro e w11 ⟨rfl, hw11⟩
                          have hb11 : Below w10.heap.size w10 w11 := by rw [hw11]; exact (Below.refl _ _).alloc (Nat.le_refl _) _
                          have HTR : Hid (w11.rowIs w10.heap.size 53 2 (tcell w7.heap.size (.slice (some ⟨ob, 0, none⟩) n n))) := by
                            rw [hw11]
                            refine World.rowIs_alloc w10 _ 53 _ (fun i hi => ?_)
                            have hi : i < 2 := hi
                            match i, hi with
                            | 0, _ => rfl
                            | 1, _ => rfl
                          have HBC2 : Hid (Bc w11 w7.heap.size (.slice (some ⟨nb, 0, none⟩) n c0) _ ds (plAt g (t + 1)).nx (plOf g t) fs) := HBC.out.below hb11
                          have HAH2 : Hid (Ahead w1.heap.size w1 w11 (some ⟨nb, 0, none⟩) N0 w2.heap.size ob wo.heap.size n t (plOf g t) fs (f t) f g (some ⟨db, 0, none⟩) cd1) := HAH.out.next (HB10.out.trans (hb11.mono HB10.out.size))
                          have HIDS : Hid (∀ m, (id m).size ≤ 1048576) := HMS.out.ids
                          have HNM : Hid (Names w11 nb n N0) := by
                            obtain ⟨nb', e, h⟩ := HAH2.out.names (f t) hft
                            cases e
                            exact h
                          have c11 := HNM.out.row.cell hft
                          have s11 : w11.cell? ⟨wo.heap.size, 0, none⟩ = some (.int .i64 (f t : Nat)) := HAH2.out.box.cell (i := 0) (by decide)
                          obtain ⟨VO, hO⟩ := HAH2.out.ords
                          have HO : Hid (Nest EI 58 3 1 w1.heap.size w11 (.slice (some ⟨ob, 0, none⟩) n n) (ordAt f g n t) VO) := hO
                          have HTK : Hid (Talks w11) := HT.out.of_tape HAH2.out.below.tape
                          have y5 : (0 : Int) ≤ (f t : Int) := by omega
                          have y6 : (f t : Int) < (n : Int) := by omega
                          clear hw11 hb11 HBC HAH HB10 HMS hO HN5
                          go_wp2_with fail
                          refine (step_any w10.heap.size w7.heap.size ob nb w1.heap.size n n c0 (plAt g (t + 1)).nx (plOf g t) fs (f t) t _ ds N0 (ordAt f g n t) (ordAt f g n (t + 1)) VO (N0 (f t)) _ HTK.out HTR.out HBC2.out HNM.out HIDS.out HO.out (ordAt_length f g n t) HAH2.out.size hft h6 (by omega) hml HTO.out HAH2.out.agree).mono ?_
                          rintro e w12 ⟨⟨txt, rfl, hpost⟩, hrow, hnest, hkeep⟩
                          have HROW12 : Hid _ := hrow
                          have HNEST12 : Hid _ := hnest
                          have HKEEP12 : Hid _ := hkeep
                          clear hrow hnest hkeep c11 s11
                          go_wp2_with fail
                          refine (ordersOf_any w10.heap.size w7.heap.size (some ⟨ob, 0, none⟩) n n _ HROW12.out).mono ?_
                          rintro e w13 ⟨rfl, rfl⟩
                          rcases hpost with ⟨hne, hnA⟩ | ⟨rfl, hA⟩
                          · have HNA : Hid _ := hnA
                            have hq : txt.toList.isEmpty = false := by
                              rw [ByteArray.toList_eq]
                              simpa using hne
                            clear hnA hne
                            go_wp2
                            go_meet
                            case rel => exact ⟨t + 1, by go_num, rfl, HAH2.out.done HKEEP12.out HNEST12.out HNA.out htk⟩
                          · have HAG : Hid _ := hA
                            clear hA
                            go_wp2
                            go_roundw
                            case rel => exact ⟨t + 1, some ⟨db, 0, none⟩, cd1, w10.heap.size, by omega, by go_num, rfl, rfl, rfl, rfl, HAH2.out.st HKEEP12.out HNEST12.out HAG.out⟩
                            case measure => simp [intOf]; omega
                  · obtain rfl : t = k := by omega
                    clear hst
                    go_wp2
                    go_meet
                    case rel =>
                      refine ⟨t + 1, by go_num, rfl, ⟨by omega, by omega, ?_, HST.out.agree, fun h => by omega, HST.out.below⟩⟩
                      rw [Nat.min_eq_right (by omega)]
                      exact HST.out.ords
              case rest =>
                obtain ⟨r, rfl, rfl, hd⟩ := hcut
                obtain ⟨w9, rfl⟩ : ∃ x : World, x = wc := ⟨_, rfl⟩
                have HD : Hid (Done w1.heap.size w1 w9 ob n k r f g) := hd
                have r1 := hd.low
                have r2 := hd.high
                clear hd
                have HLL : Hid (∀ q j, j ≤ k → lenOf (ordAt f g n j) q ≤ 65536) := fun q j hj => by have := ord_len_le f g n j q; omega
                by_cases hr : r ≤ k
                · go_wp2_with fail
                  refine (orders_any r c' n a' f g _ ((HRS.out.below HD.out.below).le hr) (by omega) h6 (fun i hi => HF.out i (by omega)) (fun i hi => HG.out i (by omega))).mono ?_
                  rintro e w10 ⟨ob2, V2, rfl, hN2, hb10⟩
                  have HN2 : Hid (Nest EI 58 3 1 w9.heap.size w10 (.slice (some ⟨ob2, 0, none⟩) n n) (ordAt f g n r) V2) := hN2
                  have HB10 : Hid (Below w9.heap.size w9 w10) := hb10
                  have HNO : Hid (RdN w10 (some ⟨ob, 0, none⟩) n (ordAt f g n r)) := by
                    obtain ⟨V, hN⟩ := HD.out.ords
                    rw [Nat.min_eq_left hr] at hN
                    exact (rdn_of_nest (hN.below hb10) (ordAt_length f g n r) (fun q => HLL.out q r hr))
                  clear hN2 hb10
                  go_wp2_with fail
                  refine (same_any n n n _ _ (ordAt f g n r) _ HNO.out (rdn_of_nest HN2.out (ordAt_length f g n r) (fun q => HLL.out q r hr)) (by omega)).mono ?_
                  rintro e w11 ⟨rfl, hb11⟩
                  have HB11 : Hid (Below w1.heap.size w1 w11) := HD.out.below.trans ((HB10.out.trans (hb11.mono HB10.out.size)).mono HD.out.below.size)
                  clear hb11 HN2 HB10 HNO
                  go_wp2_with fail
                  refine (agree_any (r - 1) c' n a' f g _ ((HRS.out.below HB11.out).le (by omega)) (by omega) h6 (fun i hi => HF.out i (by omega)) (fun i hi => HG.out i (by omega))).mono ?_
                  rintro e w12 ⟨⟨b, rfl, hb1, hb2⟩, hb12⟩
                  have HB12 : Hid (Below w1.heap.size w1 w12) := HB11.out.trans (hb12.mono HB11.out.size)
                  clear hb12
                  cases b with
                  | false => exact absurd HD.out.before (hb2 rfl)
                  | true =>
                    clear hb1 hb2
                    go_wp2_with fail
                    refine (agree_any r c' n a' f g _ ((HRS.out.below HB12.out).le (by omega)) (by omega) h6 (fun i hi => HF.out i (by omega)) (fun i hi => HG.out i (by omega))).mono ?_
                    rintro e w13 ⟨⟨b, rfl, hb1, hb2⟩, hb13⟩
                    have HB13 : Hid (Below w1.heap.size w1 w13) := HB12.out.trans (hb13.mono HB12.out.size)
                    clear hb13
                    cases b with
                    | true => exact absurd (hb1 rfl) (HD.out.parts hr)
                    | false =>
                      clear hb1 hb2
                      go_wp2
                      go_ret
                      exact ⟨rfl, HB13.out⟩
                · go_wp2_with fail
                  refine (orders_any k c' n a' f g _ (HRS.out.below HD.out.below) (by omega) h6 HF.out HG.out).mono ?_
                  rintro e w10 ⟨ob2, V2, rfl, hN2, hb10⟩
                  have HN2 : Hid (Nest EI 58 3 1 w9.heap.size w10 (.slice (some ⟨ob2, 0, none⟩) n n) (ordAt f g n k) V2) := hN2
                  have HB10 : Hid (Below w9.heap.size w9 w10) := hb10
                  have HNO : Hid (RdN w10 (some ⟨ob, 0, none⟩) n (ordAt f g n k)) := by
                    obtain ⟨V, hN⟩ := HD.out.ords
                    rw [Nat.min_eq_right (by omega)] at hN
                    exact (rdn_of_nest (hN.below hb10) (ordAt_length f g n k) (fun q => HLL.out q k (Nat.le_refl _)))
                  clear hN2 hb10
                  go_wp2_with fail
                  refine (same_any n n n _ _ (ordAt f g n k) _ HNO.out (rdn_of_nest HN2.out (ordAt_length f g n k) (fun q => HLL.out q k (Nat.le_refl _))) (by omega)).mono ?_
                  rintro e w11 ⟨rfl, hb11⟩
                  have HB11 : Hid (Below w1.heap.size w1 w11) := HD.out.below.trans ((HB10.out.trans (hb11.mono HB10.out.size)).mono HD.out.below.size)
                  clear hb11 HN2 HB10 HNO
                  go_wp2_with fail
                  refine (agree_any (r - 1) c' n a' f g _ ((HRS.out.below HB11.out).le (by omega)) (by omega) h6 (fun i hi => HF.out i (by omega)) (fun i hi => HG.out i (by omega))).mono ?_
                  rintro e w12 ⟨⟨b, rfl, hb1, hb2⟩, hb12⟩
                  have HB12 : Hid (Below w1.heap.size w1 w12) := HB11.out.trans (hb12.mono HB11.out.size)
                  clear hb12
                  cases b with
                  | false => exact absurd HD.out.before (hb2 rfl)
                  | true =>
                    clear hb1 hb2
                    go_wp2
                    go_ret
                    exact ⟨rfl, HB12.out⟩
end Go.Proofs.Qxb6616309aFmt
