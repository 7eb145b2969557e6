/-
  THE WALK of 'b1Agree'.
-/
import Derived.Test.Qxb6616309aFmtAgreeP
namespace Go.Proofs.Qxb6616309aFmt
open Go.RowKit

theorem make58 (w : World) : (Instr.makeSlice 58 (.int .i64 256) (.int .i64 256)).run Tryf.prog w = .ok (.slice (some ⟨w.heap.size, 0, none⟩) 256 256) (w.alloc (.cells (madeCells #[.int .i64 0] 256) 3)) :=
  run_make_row' 58 3 (.int .i64 0) 8 Tryf.underlying58 z3 rfl .i64 .i64 256 (by omega) (by omega) w

theorem rdn_of_nest {B n c : Nat} {w : World} {a : Option Addr} {rows : List (List Int)} {V : Nat → Value} (N : Nest EI 58 3 1 B w (.slice a n c) rows V) (hl : rows.length = n) (hs : ∀ i, lenOf rows i ≤ 65536) : RdN w a n rows := by
  intro i hi
  obtain ⟨g, ai, ci, h1, h2, h3, h4, _⟩ := nest_read N hl hi
  exact ⟨g, ai, ci, h1, h2, h3, rd_of_own h4, hs i⟩

/-- the cell of the positions' row -/
def pcell (R : Nat → Nat) (p q : Nat) : Value := if q < p then .slice (some ⟨R q, 0, none⟩) 256 256 else .slice none 0 0
theorem pcell_set (R : Nat → Nat) (p b : Nat) (j : Nat) : (if j = p then Value.slice (some ⟨b, 0, none⟩) 256 256 else pcell R p j) = pcell (fun q => if q = p then b else R q) (p + 1) j := by
  unfold pcell
  by_cases h : j = p
  · subst h; simp
  · rw [if_neg h]
    by_cases h2 : j < p
    · rw [if_pos h2, if_pos (by omega)]; simp only [if_neg h]
    · rw [if_neg h2, if_neg (by omega)]

/-- the positions, laid for the first p nodes -/
structure PosOk (w : World) (pb n p : Nat) (os : List (List Int)) (R : Nat → Nat) : Prop where
  row : w.rowIs pb 58 n (pcell R p)
  rows : ∀ q, q < p → pb < R q ∧ w.rowIs (R q) 3 256 (fun m => .int .i64 (posOf (rowOf os q) (lenOf os q) m))
theorem PosOk.below {w w' : World} {pb n p : Nat} {os : List (List Int)} {R : Nat → Nat} (H : PosOk w pb n p os R) (hb : Below w.heap.size w w') : PosOk w' pb n p os R :=
  ⟨row_below H.row hb H.row.lt, fun q hq => ⟨(H.rows q hq).1, row_below (H.rows q hq).2 hb (H.rows q hq).2.lt⟩⟩

def AgreeSays (n : Nat) (os : List (List Int)) (e : Ending) : Prop := ∃ b : Bool, e = .returned (.bool b) ∧ (b = true → AgreeP n os) ∧ (b = false → ¬ AgreeP n os)

theorem pos_step (zs : List Int) (j m : Nat) (hm : ix zs j = (m : Int)) (x : Nat) : (if x = m then Value.int .i64 (j : Int) else Value.int .i64 (posOf zs j x)) = Value.int .i64 (posOf zs (j + 1) x) := by
  conv => rhs; unfold posOf
  rw [hm, Int.toNat_natCast]
  split <;> rfl

set_option maxRecDepth 100000 in
set_option maxHeartbeats 4000000 in
theorem agree_any (k c n : Nat) (a : Option Addr) (f g : Nat → Nat) (w : World) (hr : RdS w a k f g) (hk : k ≤ 256) (hn : n ≤ 256) (hf : ∀ i, i < k → f i < n) (hg : ∀ i, i < k → g i < 256) :
    Calls Tryf.prog 14 #[.slice a k c, .int .i64 n] w fun e w' => AgreeSays n (ordAt f g n k) e ∧ Below w.heap.size w w' := by
  have HS : Hid (RdS w a k f g) := hr
  clear hr
  obtain ⟨os, hos⟩ : ∃ os, os = ordAt f g n k := ⟨_, rfl⟩
  rw [← hos]
  have HOS : Hid (os = ordAt f g n k) := hos
  clear hos
  have hmk := make40 n (by omega)
  have hmk2 := make58
  go_enter Tryf.func14, Tryf.ntmps14
  go_wp2_with fail
  refine (orders_any k c n a f g w HS.out hk hn hf hg).mono ?_
  rintro e w1 ⟨ob, V, rfl, hN, hb1⟩
  have HRD : Hid (RdN w1 (some ⟨ob, 0, none⟩) n os) := by
    rw [HOS.out]
    exact rdn_of_nest hN (ordAt_length f g n k) (fun i => by have := ord_len_le f g n k i; omega)
  have HO : Hid (∀ q, Ord (rowOf os q)) := by
    rw [HOS.out]
    exact ord_small f g n k hk
  have HL : Hid (∀ q, lenOf os q ≤ 256) := fun q => by have := ord_len_le f g n k q; rw [HOS.out]; omega
  have HB1 : Hid (Below w.heap.size w w1) := hb1
  clear hN hb1 HS hf hg HOS
  go_wp2
  clear hmk
  go_loopw [7] (fun v7 wr => ∃ (p : Nat) (R : Nat → Nat), p ≤ n ∧ v7 = .int .i64 p ∧ PosOk wr w1.heap.size n p os R ∧ Below w1.heap.size w1 wr) (fun v7 _ => n - (intOf v7).toNat)
  case atStart => exact ⟨0, fun _ => 0, by omega, rfl, ⟨(World.rowIs_made w1 _ n 58).congr (fun j _ => by simp [pcell]), fun q hq => by omega⟩, (Below.refl _ _).alloc (Nat.le_refl _) _⟩
  case round =>
    obtain ⟨p, R, hp, rfl, hP, hb⟩ := hrel
    obtain ⟨wo, rfl⟩ : ∃ x : World, x = wr := ⟨_, rfl⟩
    have HP : Hid (PosOk wo w1.heap.size n p os R) := hP
    have HB : Hid (Below w1.heap.size w1 wo) := hb
    by_cases hpn : p < n
    · have cp := hP.row.cell hpn
      have fp := hP.row.frozen p
      have lp := hP.row.lt
      clear hP hb
      go_wp2
      clear hmk2
      go_loopw [8] (fun v8 wr => ∃ x : Nat, x ≤ 256 ∧ v8 = .int .i64 x ∧ wr.rowIs wo.heap.size 3 256 (fun m => .int .i64 (if m < x then -1 else 0)) ∧ wr.rowIs w1.heap.size 58 n (pcell (fun q => if q = p then wo.heap.size else R q) (p + 1)) ∧ Keep (fun k => k = w1.heap.size) wo wr) (fun v8 _ => 256 - (intOf v8).toNat)
      case atStart =>
        refine ⟨0, by omega, rfl, ?_, ?_, ((Keep.refl (fun k => k = w1.heap.size) wo).setCell (a := ⟨w1.heap.size, p, none⟩) (Or.inl rfl) _).alloc _⟩
        · have := World.rowIs_made (wo.setCell ⟨w1.heap.size, p, none⟩ (.slice (some ⟨wo.heap.size, 0, none⟩) 256 256)) (.int .i64 0) 256 3
          rw [show (wo.setCell ⟨w1.heap.size, p, none⟩ (.slice (some ⟨wo.heap.size, 0, none⟩) 256 256)).heap.size = wo.heap.size by simp [World.setCell]] at this
          exact this.congr (fun j _ => by simp)
        · exact ((HP.out.row.set p _).alloc _).congr (fun j _ => pcell_set R p _ j)
      case round =>
        obtain ⟨x, hx, rfl, hrow, hpr, hke⟩ := hrel
        obtain ⟨wi, rfl⟩ : ∃ x : World, x = wr := ⟨_, rfl⟩
        have HPR : Hid (wi.rowIs w1.heap.size 58 n (pcell (fun q => if q = p then wo.heap.size else R q) (p + 1))) := hpr
        have HKE : Hid (Keep (fun k => k = w1.heap.size) wo wi) := hke
        have cpp : wi.cell? ⟨w1.heap.size, p, none⟩ = some (.slice (some ⟨wo.heap.size, 0, none⟩) 256 256) := by
          rw [hpr.cell hpn]; simp [pcell]
        by_cases hx2 : x < 256
        · have cx := hrow.cell hx2
          have fx := hrow.frozen x
          clear hpr hke cp fp
          go_wp2
          go_roundw
          case rel =>
            refine ⟨x + 1, by omega, by go_num, (hrow.set x _).congr (fun j _ => neg_step x j), ?_, HKE.out.setCell (Or.inr (Nat.le_refl _)) _⟩
            exact ((Keep.refl (fun k => k = wo.heap.size) wi).setCell (a := ⟨wo.heap.size, x, none⟩) (Or.inl rfl) _).row HPR.out (by show ¬ (w1.heap.size = wo.heap.size); omega)
          case measure => simp [intOf]; omega
        · have HROW : Hid (wi.rowIs wo.heap.size 3 256 (fun m => .int .i64 (posOf (rowOf os p) 0 m))) := hrow.congr fun j hj => by rw [if_pos (by omega)]; rfl
          clear hrow hpr hke cp fp hx cpp
          go_wp2
          clear hx2
          go_loopw [9] (fun v9 wr => ∃ j : Nat, j ≤ lenOf os p ∧ v9 = .int .i64 j ∧ wr.rowIs wo.heap.size 3 256 (fun m => .int .i64 (posOf (rowOf os p) j m)) ∧ wr.rowIs w1.heap.size 58 n (pcell (fun q => if q = p then wo.heap.size else R q) (p + 1)) ∧ Keep (fun k => k = w1.heap.size) wo wr) (fun v9 _ => lenOf os p - (intOf v9).toNat)
          case atStart => exact ⟨0, by omega, rfl, HROW.out, HPR.out, HKE.out⟩
          case round =>
            clear HROW HPR HKE wi
            obtain ⟨j, hj, rfl, hrow, hpr, hke⟩ := hrel
            obtain ⟨wi, rfl⟩ : ∃ x : World, x = wr := ⟨_, rfl⟩
            have HROW : Hid (wi.rowIs wo.heap.size 3 256 (fun m => .int .i64 (posOf (rowOf os p) j m))) := hrow
            have HPR : Hid (wi.rowIs w1.heap.size 58 n (pcell (fun q => if q = p then wo.heap.size else R q) (p + 1))) := hpr
            have HKE : Hid (Keep (fun k => k = w1.heap.size) wo wi) := hke
            have cpp : wi.cell? ⟨w1.heap.size, p, none⟩ = some (.slice (some ⟨wo.heap.size, 0, none⟩) 256 256) := by
              rw [hpr.cell hpn]; simp [pcell]
            have hbi : Below w1.heap.size w1 wi := HB.out.trans (hke.below HB.out.size (fun k h => by omega))
            obtain ⟨g0, ai, ci, e0, hg0, hc0, hrd0, _⟩ := (RdN.below HRD.out hbi) p hpn
            cases e0
            have hlen := HL.out p
            by_cases hjl : j < lenOf os p
            · obtain ⟨b, rfl, hbl, hcj⟩ := hrd0 j hjl
              obtain ⟨m, hm, hm2⟩ := (HO.out p).small j hjl
              have cj := hcj j hjl
              rw [hm] at cj
              have cm := hrow.cell hm2
              have fm := hrow.frozen m
              have HM : Hid (ix (rowOf os p) j = (m : Int)) := hm
              have y1 : (0 : Int) ≤ (p : Int) := by omega
              have y2 : (p : Int) < (n : Int) := by omega
              have y3 : (0 : Int) ≤ (j : Int) := by omega
              have y4 : (j : Int) < (lenOf os p : Int) := by omega
              have y5 : (0 : Int) ≤ (m : Int) := by omega
              have y6 : (m : Int) < 256 := by omega
              clear hrow hpr hke hbi hcj hm
              go_wp2
              go_region_law (fail)
              all_goals
                go_wp2
                go_roundw
                case rel =>
                  refine ⟨j + 1, by omega, by go_num, ((row_drewN HROW.out 1).set m _).congr (fun x _ => pos_step _ _ _ HM.out x), ?_, (HKE.out.drewN 1).setCell (Or.inr (Nat.le_refl _)) _⟩
                  exact (((Keep.refl (fun k => k = wo.heap.size) wi).drewN 1).setCell (a := ⟨wo.heap.size, m, none⟩) (Or.inl rfl) _).row HPR.out (by show ¬ (w1.heap.size = wo.heap.size); omega)
                case measure => simp [intOf]; omega
            · obtain rfl : j = lenOf os p := by omega
              clear hrow hpr hke
              go_wp2
              go_roundw
              case rel =>
                refine ⟨p + 1, (fun q => if q = p then wo.heap.size else R q), by omega, by go_num, ⟨HPR.out, fun q hq => ?_⟩, hbi⟩
                by_cases e : q = p
                · subst e
                  simp only [if_true]
                  exact ⟨by omega, HROW.out⟩
                · rw [if_neg e]
                  obtain ⟨h1, h2⟩ := HP.out.rows q (by omega)
                  exact ⟨h1, HKE.out.row h2 (by show ¬ (R q = w1.heap.size); omega)⟩
              case measure => simp [intOf]; omega
    · obtain rfl : p = n := by omega
      clear hP hb
      go_wp2
      go_loopw [10] (fun v10 wr => ∃ p' : Nat, p' ≤ p ∧ v10 = .int .i64 p' ∧ Below wo.heap.size wo wr ∧ ∀ a, a < p' → ∀ q, a < q → q < p → PairTo os a q (lenOf os a)) (fun v10 _ => p - (intOf v10).toNat)
      case atStart => exact ⟨0, by omega, rfl, Below.refl _ _, fun a h => by omega⟩
      case round =>
        obtain ⟨i, hi, rfl, hbz, hprs⟩ := hrel
        obtain ⟨wz, rfl⟩ : ∃ x : World, x = wr := ⟨_, rfl⟩
        have HBZ : Hid (Below wo.heap.size wo wz) := hbz
        have HPRS : Hid (∀ a, a < i → ∀ q, a < q → q < p → PairTo os a q (lenOf os a)) := hprs
        clear hbz hprs
        by_cases hip : i < p
        · go_wp2
          go_loopw [11] (fun v11 wr => ∃ q : Nat, i + 1 ≤ q ∧ q ≤ p ∧ v11 = .int .i64 q ∧ Below wo.heap.size wo wr ∧ ∀ q', i < q' → q' < q → PairTo os i q' (lenOf os i)) (fun v11 _ => p - (intOf v11).toNat)
          case atStart => exact ⟨i + 1, by omega, by omega, by go_num, HBZ.out, fun q' h1 h2 => by omega⟩
          case round =>
            clear HBZ wz
            obtain ⟨q, hq1, hq2, rfl, hbz, hqs⟩ := hrel
            obtain ⟨wz, rfl⟩ : ∃ x : World, x = wr := ⟨_, rfl⟩
            have HBZ : Hid (Below wo.heap.size wo wz) := hbz
            have HQS : Hid (∀ q', i < q' → q' < q → PairTo os i q' (lenOf os i)) := hqs
            clear hbz hqs
            by_cases hqp : q < p
            · go_wp2
              go_loopw [12, 13] (fun v12 v13 wr => ∃ (j : Nat) (L : Int), j ≤ lenOf os i ∧ v13 = .int .i64 j ∧ v12 = .int .i64 L ∧ LastOk os i q j L ∧ Below wo.heap.size wo wr) (fun _ v13 _ => lenOf os i - (intOf v13).toNat)
              case atStart => exact ⟨0, -1, by omega, rfl, rfl, LastOk.start _ _ _, HBZ.out⟩
              case round =>
                clear HBZ wz
                obtain ⟨j, L, hj, rfl, rfl, hlast, hbz⟩ := hrel
                obtain ⟨wz, rfl⟩ : ∃ x : World, x = wr := ⟨_, rfl⟩
                have HBZ : Hid (Below wo.heap.size wo wz) := hbz
                have HLA : Hid (LastOk os i q j L) := hlast
                have hP := HP.out.below hbz
                obtain ⟨g0, ai, ci, e0, hg0, hc0, hrd0, _⟩ := (RdN.below HRD.out (HB.out.trans (hbz.mono HB.out.size))) i hip
                cases e0
                have hlen := HL.out i
                by_cases hjl : j < lenOf os i
                · obtain ⟨b, rfl, hbl, hcj⟩ := hrd0 j hjl
                  obtain ⟨m, hm, hm2⟩ := (HO.out i).small j hjl
                  have cj := hcj j hjl
                  rw [hm] at cj
                  have cq : wz.cell? ⟨w1.heap.size, q, none⟩ = some (.slice (some ⟨R q, 0, none⟩) 256 256) := by
                    rw [hP.row.cell hqp]; simp [pcell, hqp]
                  have cm : wz.cell? ⟨R q, m, none⟩ = some (.int .i64 (atOf os i q j)) := by
                    rw [(hP.rows q hqp).2.cell hm2]
                    unfold atOf
                    rw [hm, Int.toNat_natCast]
                  have hlow := (atOf_spec (HO.out i) (HO.out q) hjl).1
                  have HLOW : Hid _ := hlow
                  have y1 : (0 : Int) ≤ (i : Int) := by omega
                  have y2 : (i : Int) < (p : Int) := by omega
                  have y3 : (0 : Int) ≤ (j : Int) := by omega
                  have y4 : (j : Int) < (lenOf os i : Int) := by omega
                  have y5 : (0 : Int) ≤ (m : Int) := by omega
                  have y6 : (m : Int) < 256 := by omega
                  have y7 : (0 : Int) ≤ (q : Int) := by omega
                  have y8 : (q : Int) < (p : Int) := by omega
                  clear hP hbz hlast hcj hm hlow
                  go_wp2
                  go_quiet (fail)
                  by_cases ha : atOf os i q j < 0
                  · go_wp2
                    go_roundw
                    case rel => exact ⟨j + 1, L, by omega, by go_num, rfl, HLA.out.skip (HO.out i) (HO.out q) hjl ha, bdrewN HBZ.out _⟩
                    case measure => simp [intOf]; omega
                  · by_cases hl : atOf os i q j < L
                    · go_wp2
                      go_ret
                      exact ⟨⟨false, rfl, fun h => (by cases h), fun _ => HLA.out.bad (HO.out i) (HO.out q) hjl (by omega) hl (by omega) hqp⟩, HB1.out.trans ((HB.out.trans ((bdrewN HBZ.out _).mono HB.out.size)).mono HB1.out.size)⟩
                    · go_wp2
                      go_roundw
                      case rel => exact ⟨j + 1, _, by omega, by go_num, rfl, HLA.out.take (HO.out i) (HO.out q) hjl (by omega) hl, bdrewN HBZ.out _⟩
                      case measure => simp [intOf]; omega
                · obtain rfl : j = lenOf os i := by omega
                  clear hP hbz hlast
                  go_wp2
                  go_roundw
                  case rel =>
                    refine ⟨q + 1, by omega, by omega, by go_num, HBZ.out, fun q' h1 h2 => ?_⟩
                    by_cases e : q' = q
                    · subst e; exact HLA.out.pair
                    · exact HQS.out q' h1 (by omega)
                  case measure => simp [intOf]; omega
            · obtain rfl : q = p := by omega
              go_wp2
              go_roundw
              case rel =>
                refine ⟨i + 1, by omega, by go_num, HBZ.out, fun a ha q' h1 h2 => ?_⟩
                by_cases e : a = i
                · subst e; exact HQS.out q' h1 h2
                · exact HPRS.out a (by omega) q' h1 h2
              case measure => simp [intOf]; omega
        · obtain rfl : i = p := by omega
          go_wp2
          go_ret
          exact ⟨⟨true, rfl, fun _ => fun a q h1 h2 => HPRS.out a (by omega) q h1 h2, fun h => (by cases h)⟩, HB1.out.trans ((HB.out.trans (HBZ.out.mono HB.out.size)).mono HB1.out.size)⟩
end Go.Proofs.Qxb6616309aFmt
