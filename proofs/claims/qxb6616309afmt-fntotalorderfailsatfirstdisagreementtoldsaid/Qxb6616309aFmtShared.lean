/-
  THE WALKS of 'delivers' and 'lastShared'.
-/
import Derived.Test.Qxb6616309aFmtBy
import Derived.Deep.QuietTactic
import Derived.BigQuiet
import Derived.BigRegion
import Derived.Deep.RegionWith
import Derived.Deep.DeepCutAuto
namespace Go.Proofs.Qxb6616309aFmt
open Go.RowKit

theorem bdrewN {B : Nat} {w w' : World} (h : Below B w w') (n : Nat) : Below B w (w'.drewN n) := h.trans ⟨rfl, rfl, rfl, Nat.le_refl _, fun _ _ => rfl⟩

/-- a trace line -/
def lineA (seq : Int) (kind : ByteArray) (a : Option Addr) (n c : Nat) (node : ByteArray) : Array Value := #[.int .i64 seq, .int .i64 0, .string kind, .slice a n c, .string node, .slice none 0 0]

set_option maxHeartbeats 400000 in
theorem deliversNo_any (bb : Nat) (seq : Int) (kind : ByteArray) (a : Option Addr) (n c : Nat) (node : ByteArray) (w : World) (h6 : w.cell? ⟨bb, 6, none⟩ = some (.int .i64 (-1))) :
    Calls Tryf.prog 21 #[.pointer (some ⟨bb, 0, none⟩), .agg (lineA seq kind a n c node)] w fun e w' => e = .returned (.tuple #[.pointer none, .bool false]) ∧ w' = w.alloc (.cells (lineA seq kind a n c node) 39) := by
  have l6 := World.block_lt_of_cell? _ _ h6
  unfold lineA
  go_enter Tryf.func21, Tryf.ntmps21
  go_wp2
  go_ret2
  exact ⟨rfl, rfl⟩

set_option maxHeartbeats 1000000 in
theorem delivers_any (bb : Nat) (nv : Value) (d : BcD) (dels : List (List (Int × Int))) (M dl fs : Nat) (seq : Int) (kind : ByteArray) (a : Option Addr) (n c : Nat) (node : ByteArray) (w : World) (b : Bc w bb nv d dels M dl fs)
    (hdl : dl < M) (hfs : fs < lenOf dels dl) :
    Calls Tryf.prog 21 #[.pointer (some ⟨bb, 0, none⟩), .agg (lineA seq kind a n c node)] w fun e w' => e = .returned (.tuple #[.pointer (some ⟨d.mb, dl * 4, none⟩), .bool (sq (rowOf dels dl) fs == seq)]) ∧
      Below w.heap.size w w' := by
  have c3 : w.cell? ⟨bb, 3, none⟩ = some (.slice (some ⟨d.mb, 0, none⟩) M M) := b.box.cell (i := 3) (by decide)
  have c6 : w.cell? ⟨bb, 6, none⟩ = some (.int .i64 dl) := b.box.cell (i := 6) (by decide)
  have c7 : w.cell? ⟨bb, 7, none⟩ = some (.int .i64 fs) := b.box.cell (i := 7) (by decide)
  have hM := b.small
  have hmsg := b.msg hdl
  have hL := b.smalls dl hdl
  clear b
  generalize rowOf dels dl = ds at *
  generalize lenOf dels dl = m at *
  generalize d.mb = mb at *
  generalize d.D dl = D at *
  have f3 := hmsg.fld
  have s1 := hmsg.seq fs hfs
  clear hmsg
  have l3 := World.block_lt_of_cell? _ _ c3
  have l4 := World.block_lt_of_cell? _ _ f3
  have l5 := World.block_lt_of_cell? _ _ s1
  unfold lineA
  go_enter Tryf.func21, Tryf.ntmps21
  go_wp2
  go_quiet (fail)
  go_wp2
  go_quiet (fail)
  go_wp2
  go_ret2
  exact ⟨rfl, bdrewN (bdrewN ((Below.refl _ w).alloc (Nat.le_refl _) _) _) _⟩

theorem Bc.alike {w w' : World} {bb : Nat} {nv : Value} {d : BcD} {dels : List (List (Int × Int))} {M dl fs : Nat} (b : Bc w bb nv d dels M dl fs) (e : w'.heap = w.heap) : Bc w' bb nv d dels M dl fs := by
  obtain ⟨h1, h2, h3, h4, h5, h6, h7, h8, h9⟩ := b
  have r : ∀ {b t n : Nat} {f : Nat → Value}, w.rowIs b t n f → w'.rowIs b t n f := fun h => h.of_block (by rw [e])
  exact ⟨h1, h2, h3, r h4, r h5, fun m hm => r (h6 m hm), by rw [e]; exact h7, by rw [e]; exact h8, fun m hm h => ⟨r (h9 m hm h).1, (h9 m hm h).2.1, fun w2 e2 => (h9 m hm h).2.2 w2 (by rw [e2, e])⟩⟩

/-- an int slice that is read -/
def Rd (w : World) (a : Option Addr) (k : Nat) (zs : List Int) : Prop :=
  ∀ i, i < k → ∃ b, a = some ⟨b, 0, none⟩ ∧ b < w.heap.size ∧ ∀ i, i < k → w.cell? ⟨b, i, none⟩ = some (.int .i64 (ix zs i))
theorem Rd.below {w w' : World} {a : Option Addr} {k : Nat} {zs : List Int} (h : Rd w a k zs) (hb : Below w.heap.size w w') : Rd w' a k zs := by
  intro i hi
  obtain ⟨b, e, hlt, hc⟩ := h i hi
  exact ⟨b, e, Nat.lt_of_lt_of_le hlt hb.size, fun j hj => (hb.cell (p := ⟨b, j, none⟩) hlt).trans (hc j hj)⟩

def NotIn (dels : List (List (Int × Int))) (m : Nat) (q : Int) : Prop := ∀ p, p < lenOf dels m → nd (rowOf dels m) p ≠ q

def DownAt (i : Nat) (v : Value) : Prop := (i = 0 ∧ v = .int .i64 (-1)) ∨ ∃ j : Nat, i = j + 1 ∧ v = .int .i64 (j : Int)
theorem downAt_start (k : Nat) : DownAt k (.int .i64 ((k : Int) - 1)) := by
  rcases k with _ | k
  · exact Or.inl ⟨rfl, rfl⟩
  · exact Or.inr ⟨k, rfl, by congr 1; omega⟩

/-- what 'lastShared' answers -/
def Shares (dels : List (List (Int × Int))) (zs : List Int) (k : Nat) (q : Int) (e : Ending) : Prop :=
  (e = .returned (.tuple #[.int .i64 0, .agg #[.int .i64 0, .int .i64 0], .bool false]) ∧ ∀ j, j < k → NotIn dels (ix zs j).toNat q) ∨
  (∃ i p m : Nat, i < k ∧ ix zs i = (m : Int) ∧ p < lenOf dels m ∧ nd (rowOf dels m) p = q ∧ e = .returned (.tuple #[.int .i64 m, .agg #[.int .i64 (nd (rowOf dels m) p), .int .i64 (sq (rowOf dels m) p)], .bool true]) ∧ ∀ j, i < j → j < k → NotIn dels (ix zs j).toNat q)

set_option maxHeartbeats 2000000 in
theorem lastShared_any (tb bb : Nat) (nv : Value) (d : BcD) (dels : List (List (Int × Int))) (M dl fs k c : Nat) (a : Option Addr) (zs : List Int) (q : Int) (w : World) (b : Bc w bb nv d dels M dl fs)
    (ht : w.cell? ⟨tb, 0, none⟩ = some (.pointer (some ⟨bb, 0, none⟩))) (hr : Rd w a k zs) (hk : k ≤ 65536) (hz : ∀ j, j < k → ∃ m : Nat, ix zs j = (m : Int) ∧ m < M) :
    Calls Tryf.prog 22 #[.pointer (some ⟨tb, 0, none⟩), .slice a k c, .int .i64 q] w fun e w' => Shares dels zs k q e ∧ Below w.heap.size w w' := by
  have HZ : Hid _ := hz
  clear hz
  have HBc : Hid _ := b
  clear b
  have HR : Hid _ := hr
  clear hr
  have HT : Hid _ := ht
  clear ht
  go_enter Tryf.func22, Tryf.ntmps22
  go_wp2
  obtain ⟨w0, hw0⟩ : ∃ x : World, x = w.alloc (.cells #[.int .i64 0, .int .i64 0] 61) := ⟨_, rfl⟩
  go_loopw [9] (fun vi wr => ∃ i : Nat, i ≤ k ∧ DownAt i vi ∧ Below w0.heap.size w0 wr ∧ ∀ j, i ≤ j → j < k → NotIn dels (ix zs j).toNat q) (fun vi _ => (intOf vi + 1).toNat)
  case atStart => exact ⟨k, Nat.le_refl _, downAt_start k, by rw [hw0]; exact Below.refl _ _, fun j h1 h2 => by omega⟩
  case round =>
    obtain ⟨i, hi, hdn, hbl, hno⟩ := hrel
    have hw1 : w0.heap.size = w.heap.size + 1 := by rw [hw0]; simp
    have hb1 : Below w.heap.size w w0 := by rw [hw0]; exact (Below.refl _ _).alloc (Nat.le_refl _) _
    have hb0 : Below w.heap.size w wr := hb1.trans (hbl.mono hb1.size)
    have t0 : w0.rowIs w.heap.size 61 2 (fun _ => .int .i64 0) := by rw [hw0]; exact World.rowIs_alloc w #[.int .i64 0, .int .i64 0] 61 _ (fun i hi => by simp at hi; rcases i with _ | _ | i <;> simp; omega)
    replace t0 := row_below t0 hbl (by omega)
    clear hw0 hb1
    obtain ⟨wo, rfl⟩ : ∃ x : World, x = wr := ⟨_, rfl⟩
    have c0 := t0.cell (show 0 < 2 by omega)
    have c1 := t0.cell (show 1 < 2 by omega)
    have z0 := t0.frozen 0
    have z1 := t0.frozen 1
    rcases hdn with ⟨rfl, rfl⟩ | ⟨j, rfl, rfl⟩
    · have HB : Hid _ := hb0
      have HN : Hid _ := hno
      clear hb0 hbl hno
      have q0 : ∀ v v', ((wo.setCell ⟨w.heap.size, 0, none⟩ v).setCell ⟨w.heap.size, 1, none⟩ v').cell? ⟨w.heap.size, 0, none⟩ = some v := fun v v' => by simpa using ((t0.set 0 v).set 1 v').cell (show 0 < 2 by omega)
      have q1 : ∀ v v', ((wo.setCell ⟨w.heap.size, 0, none⟩ v).setCell ⟨w.heap.size, 1, none⟩ v').cell? ⟨w.heap.size, 1, none⟩ = some v' := fun v v' => by simpa using ((t0.set 0 v).set 1 v').cell (show 1 < 2 by omega)
      go_wp2
      refine bodyPost_ret (v := .tuple #[.int .i64 0, .agg #[.int .i64 0, .int .i64 0], .bool false]) (by simp [results, Tryf.results22, go_sem, q0, q1]) rfl ?_
      exact ⟨Or.inl ⟨rfl, fun j hj => HN.out j (Nat.zero_le _) hj⟩, (HB.out.setCell (Nat.le_refl _) _).setCell (Nat.le_refl _) _⟩
    · have HB : Hid _ := hb0
      have HB1 : Hid _ := hbl
      have HN : Hid _ := hno
      obtain ⟨b, rfl, hlt, hcz⟩ := (Rd.below HR.out hb0) j (by omega)
      obtain ⟨m, hm, hmM⟩ := HZ.out j (by omega)
      have hcj := hcz j (by omega)
      rw [hm] at hcj
      clear hcz
      have ht := (hb0.cell (World.block_lt_of_cell? _ _ HT.out)).trans HT.out
      have hBc : Hid _ := HBc.out.below hb0
      clear hb0 hbl hno
      go_wp2
      go_cut [10, 11] (fun v10 v11 wc => ∃ (p : Nat) (r : Bool), v10 = .int .i64 p ∧ v11 = .bool r ∧ (r = true → p < lenOf dels m ∧ nd (rowOf dels m) p = q) ∧ (r = false → NotIn dels m q) ∧ Below wo.heap.size wo wc)
      case first =>
        go_region_with (refine (deliveryBy_any bb nv d dels M dl fs m q wo.drew (hBc.out.alike rfl) hmM).mono ?_; rintro e w1 ⟨⟨p, r, rfl, h1, h2⟩, hb⟩; have hb : Below wo.heap.size wo w1 := ⟨hb.os, hb.tape, hb.output, hb.size, hb.block⟩)
        all_goals
          go_wp2
          go_meet
          case rel => exact ⟨p, r, rfl, rfl, h1, h2, hb⟩
      case rest =>
        obtain ⟨p, r, rfl, rfl, h1, h2, hbc⟩ := hcut
        cases r with
        | false =>
          have HNI : Hid _ := h2 rfl
          clear h1 h2
          go_wp2
          go_roundw
          case rel =>
            refine ⟨j, by omega, downAt_start j, HB1.out.trans (hbc.mono HB1.out.size), fun i hi1 hi2 => ?_⟩
            by_cases e : i = j
            · subst e; rw [hm]; exact HNI.out
            · exact HN.out i (by omega) hi2
          case measure => simp [intOf]
        | true =>
          obtain ⟨hp, hq⟩ := h1 rfl
          clear h1 h2
          have HQ : Hid _ := hq
          have hB2 := hBc.out.below hbc
          have e3 : wc.cell? ⟨bb, 3, none⟩ = some (.slice (some ⟨d.mb, 0, none⟩) M M) := hB2.box.cell (i := 3) (by decide)
          have hMM := hB2.small
          have hmsg := hB2.msg hmM
          have hsm := hB2.smalls m hmM
          have f3 := hmsg.fld
          have f4 := hmsg.node p hp
          have f5 := hmsg.seq p hp
          have ht2 := (hbc.cell (World.block_lt_of_cell? _ _ ht)).trans ht
          have hcj2 := (hbc.cell (World.block_lt_of_cell? _ _ hcj)).trans hcj
          have t2 := row_below t0 hbc t0.lt
          have d0 := t2.cell (show 0 < 2 by omega)
          have d1 := t2.cell (show 1 < 2 by omega)
          have y0 := t2.frozen 0
          have y1 := t2.frozen 1
          have q0 : ∀ v v', ((wc.setCell ⟨w.heap.size, 0, none⟩ v).setCell ⟨w.heap.size, 1, none⟩ v').cell? ⟨w.heap.size, 0, none⟩ = some v := fun v v' => by simpa using ((t2.set 0 v).set 1 v').cell (show 0 < 2 by omega)
          have q1 : ∀ v v', ((wc.setCell ⟨w.heap.size, 0, none⟩ v).setCell ⟨w.heap.size, 1, none⟩ v').cell? ⟨w.heap.size, 1, none⟩ = some v' := fun v v' => by simpa using ((t2.set 0 v).set 1 v').cell (show 1 < 2 by omega)
          clear hq hmsg hB2 c0 c1 z0 z1 ht hcj
          have HE : Hid (Below w.heap.size w wc) := HB.out.trans (hbc.mono HB.out.size)
          have HT2 : Hid _ := t2
          clear hbc t0 t2
          go_wp2
          go_region
          go_wp2
          refine bodyPost_ret (v := .tuple #[.int .i64 m, .agg #[.int .i64 (nd (rowOf dels m) p), .int .i64 (sq (rowOf dels m) p)], .bool true]) (by simp [results, Tryf.results22, go_sem, q0, q1]) rfl ?_
          exact ⟨Or.inr ⟨j, p, m, by omega, hm, hp, HQ.out, rfl, fun i hi1 hi2 => HN.out i (by omega) hi2⟩, ((HE.out.setCell (Nat.le_refl _) _).setCell (Nat.le_refl _) _).drew⟩
end Go.Proofs.Qxb6616309aFmt
