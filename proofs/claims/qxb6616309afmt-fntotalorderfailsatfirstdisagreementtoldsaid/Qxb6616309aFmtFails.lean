/-
  THE WALK of 'fails'.
-/
import Derived.Test.Qxb6616309aFmtParted
import Derived.Test.Qxb6616309aFmtApp
import Derived.Deep.AppendLies
namespace Go.Proofs.Qxb6616309aFmt
open Go.RowKit

theorem make40 (n : Nat) (hn : n ≤ 1048576) (w : World) : (Instr.makeSlice 40 (.int .i64 (n : Int)) (.int .i64 (n : Int))).run Tryf.prog w = .ok (.slice (some ⟨w.heap.size, 0, none⟩) n n) (w.alloc (.cells (madeCells #[.slice none 0 0] n) 58)) :=
  run_make_row' 40 58 (.slice none 0 0) 24 Tryf.underlying40 z58 rfl .i64 .i64 n (by omega) (by omega) w

def tcell (bb : Nat) (v : Value) : Nat → Value
  | 0 => .pointer (some ⟨bb, 0, none⟩)
  | _ => v

set_option maxHeartbeats 1000000 in
theorem failsStart_any (tb bb n c : Nat) (a : Option Addr) (v : Value) (seq : Int) (node : ByteArray) (w : World) (hn : n ≤ 65536) (ht : w.rowIs tb 53 2 (tcell bb v)) (h6 : w.cell? ⟨bb, 6, none⟩ = some (.int .i64 (-1))) (hne : bb ≠ tb) :
    Calls Tryf.prog 15 #[.pointer (some ⟨tb, 0, none⟩), .agg (lineA seq ⟨#[115, 116, 97, 114, 116]⟩ a n c node)] w fun e w' => e = .returned (.string ByteArray.empty) ∧
      ∃ ob, w.heap.size ≤ ob ∧ w'.rowIs tb 53 2 (tcell bb (.slice (some ⟨ob, 0, none⟩) n n)) ∧ w'.rowIs ob 58 n (fun _ => .slice none 0 0) ∧ Keep (fun k => k = tb) w w' := by
  have t0 : w.cell? ⟨tb, 0, none⟩ = some (.pointer (some ⟨bb, 0, none⟩)) := ht.cell (i := 0) (by decide)
  have t1 : w.cell? ⟨tb, 1, none⟩ = some v := ht.cell (i := 1) (by decide)
  have f1 := ht.frozen 1
  have lt := ht.lt
  have l6 := World.block_lt_of_cell? _ _ h6
  have hmk := make40 n (by omega)
  unfold lineA
  go_enter Tryf.func15, Tryf.ntmps15
  go_wp2_with fail
  have K1 : Keep (fun k => k = tb) w (((w.setCell ⟨tb, 1, none⟩ (.slice (some ⟨w.heap.size + 1, 0, none⟩) n n)).alloc (.cells (lineA seq ⟨#[115, 116, 97, 114, 116]⟩ a n c node) 39)).alloc (.cells (madeCells #[.slice none 0 0] n) 58)) :=
    (((Keep.refl (fun k => k = tb) w).setCell (a := ⟨tb, 1, none⟩) (Or.inl rfl) _).alloc _).alloc _
  refine Calls.mono (deliversNo_any bb seq ⟨#[115, 116, 97, 114, 116]⟩ a n c node _ ((World.cell?_of_block (a := ⟨bb, 6, none⟩) (K1.block bb l6 hne)).trans h6)) ?_
  rintro e w1 ⟨rfl, rfl⟩
  have HK : Hid _ := K1
  clear K1
  go_wp2
  go_ret
  refine ⟨rfl, w.heap.size + 1, by omega, ?_, ?_, HK.out.alloc _⟩
  · refine ((((ht.set 1 _).alloc _).alloc _).alloc _).congr fun i hi => ?_
    rcases i with _ | _ | i
    · rfl
    · rfl
    · omega
  · refine World.rowIs.alloc ?_ _
    have := World.rowIs_made ((w.setCell ⟨tb, 1, none⟩ (.slice (some ⟨w.heap.size + 1, 0, none⟩) n n)).alloc (.cells (lineA seq ⟨#[115, 116, 97, 114, 116]⟩ a n c node) 39)) (.slice none 0 0) n 58
    simpa [World.setCell, lineA] using this

/-- the delivery at place j of the row dl comes, at its node, before an id that the order zs shares with that node last -/
def Trip (dels : List (List (Int × Int))) (zs : List Int) (k dl j : Nat) : Prop :=
  ∃ i p m : Nat, i < k ∧ ix zs i = (m : Int) ∧ p < lenOf dels m ∧ nd (rowOf dels m) p = nd (rowOf dels dl) j ∧ sq (rowOf dels dl) j < sq (rowOf dels m) p ∧ ∀ i', i < i' → i' < k → NotIn dels (ix zs i').toNat (nd (rowOf dels dl) j)

def EI (zs : List Int) : List Value := zs.map (Value.int .i64)

theorem rd_of_own {w : World} {B k c : Nat} {a : Option Addr} {zs : List Int} (h : w.ownsRow B 3 1 (.slice a k c) k (EI zs)) : Rd w a k zs := by
  intro i hi
  obtain ⟨g, rfl, _, hlt, _⟩ := own_cell h (j := i) (by omega)
  refine ⟨g, rfl, hlt, fun j hj => ?_⟩
  obtain ⟨g', e, _, _, _, hc, _⟩ := own_cell h (j := j) (by omega)
  cases e
  rw [hc]
  have hl : zs.length = k := by simpa [EI] using h.1
  unfold EI ix
  rw [List.getElem?_map]
  have : j < zs.length := by omega
  simp [this]

theorem cell_alloc_past (w : World) (o : Obj) (a : Addr) (h : a.block < w.heap.size) : (w.alloc o).cell? a = w.cell? a := World.cell?_of_block (heap_alloc_old w o h)
theorem frozen_alloc_past (w : World) (o : Obj) (a : Addr) (h : a.block < w.heap.size) : (w.alloc o).frozen? a = w.frozen? a := World.frozen?_of_block (heap_alloc_old w o h)

/-- 'orders[p] = append(orders[p], x)', and what the old slice reads -/
theorem push_world {S : Nat → Prop} {B n c ob p k ck c' : Nat} {ak a' : Option Addr} {orders : List (List Int)} {V : Nat → Value} {x : Int} {w wa w' : World} (N : Nest EI 58 3 1 B wa (.slice (some ⟨ob, 0, none⟩) n c) orders V) (hon : orders.length = n) (hp : p < n) (hk : lenOf orders p = k)
    (hV : V p = .slice ak k ck) (h1 : w'.ownsRow B 3 1 (.slice a' (k + 1) c') (k + 1) (EI (rowOf orders p) ++ [.int .i64 x])) (hg : wa.grownBy w' (Value.slice ak k ck).ownBlock)
    (hat : (Value.slice a' (k + 1) c').ownBlock = (Value.slice ak k ck).ownBlock ∨ ∃ g, (Value.slice a' (k + 1) c').ownBlock = some g ∧ wa.heap.size ≤ g) (hold : w'.ownsRow B 3 1 (.slice ak k ck) k (EI (rowOf orders p)))
    (K : Keep S w wa) (hSo : S ob ∨ w.heap.size ≤ ob) (hSi : ∀ g, (V p).ownBlock = some g → S g ∨ w.heap.size ≤ g) :
    (∃ V', Nest EI 58 3 1 B (w'.setCell ⟨ob, p, none⟩ (.slice a' (k + 1) c')) (.slice (some ⟨ob, 0, none⟩) n c) (orders.set p (rowOf orders p ++ [x])) V') ∧ Keep S w (w'.setCell ⟨ob, p, none⟩ (.slice a' (k + 1) c')) ∧ Rd (w'.setCell ⟨ob, p, none⟩ (.slice a' (k + 1) c')) ak k (rowOf orders p) := by
  subst hon
  have hin := N.inner p hp
  have hne : ∀ g, (V p).ownBlock = some g → g ≠ ob := by
    rintro g hgb rfl
    obtain ⟨c1, t1, f1, e1, m1⟩ := own_in (T := [58]) N.outer (by simp) g rfl
    obtain ⟨c2, t2, f2, e2, m2⟩ := own_in (T := [3]) hin (by simp) g hgb
    rw [e1] at e2
    cases e2
    simp at m1 m2
    rw [m1] at m2
    exact absurd m2 (by decide)
  refine ⟨⟨_, Nest.pushed N (by decide) hp (x := x) ?_ (by rw [hV]; exact hg) (by rw [hV]; exact hat)⟩, ?_, ?_⟩
  · have : EI (orders[p]?.getD [] ++ [x]) = EI (rowOf orders p) ++ [.int .i64 x] := by simp [EI, rowOf]
    rw [this]
    have e : (orders[p]?.getD []).length + 1 = k + 1 := by rw [← hk]; rfl
    rw [e]
    exact h1
  · exact (K.grown hg (by rw [← hV]; exact hSi)).setCell hSo _
  · refine rd_of_own (B := B) (c := ck) (own_keep (S := fun k => k = ob) ((Keep.refl (fun k => k = ob) w').setCell (a := ⟨ob, p, none⟩) (Or.inl rfl) _) hold ?_)
    rw [← hV]
    exact hne

/-- the blocks of w from B on whose cells are of one of these types -/
def tyB (B : Nat) (w : World) (T : List TypeId) (k : Nat) : Prop := B ≤ k ∧ tyS w T k
theorem Keep.ty {B : Nat} {w w' : World} {T : List TypeId} (h : Keep (tyB B w T) w w') : Keep (tyS w T) w w' := h.mono fun _ _ h => h.2
theorem Keep.low {B : Nat} {w w' : World} {T : List TypeId} (h : Keep (tyB B w T) w w') (hB : B ≤ w.heap.size) : Below B w w' := h.below hB fun _ h => h.1

/-- what the line's delivery leaves -/
def FailsPost (dels : List (List (Int × Int))) (zs : List Int) (k dl fs : Nat) (e : Ending) : Prop :=
  ∃ t : ByteArray, e = .returned (.string t) ∧ ((t.data.toList ≠ [] ∧ ∃ j, j < fs ∧ Trip dels zs k dl j) ∨ (t = ByteArray.empty ∧ ∀ j, j < fs → ¬ Trip dels zs k dl j))

theorem Names.alike {w w' : World} {nb n : Nat} {N : Nat → ByteArray} (h : Names w nb n N) (e : w'.heap = w.heap) : Names w' nb n N := ⟨h.row.of_block (by rw [e]), h.small, h.few⟩

theorem trip_none {dels : List (List (Int × Int))} {zs : List Int} {k dl j : Nat} {q : Int} (hq : nd (rowOf dels dl) j = q) (h : ∀ i, i < k → NotIn dels (ix zs i).toNat q) : ¬ Trip dels zs k dl j := by
  rintro ⟨i, p, m, hi, hix, hpl, hnd, _, _⟩
  have := h i hi
  rw [hix, Int.toNat_natCast] at this
  exact this p hpl (hnd.trans hq)
theorem trip_late {dels : List (List (Int × Int))} {zs : List Int} {k dl j i p m : Nat} {q : Int} (hq : nd (rowOf dels dl) j = q) (hi : i < k) (hm : ix zs i = (m : Int)) (hpl : p < lenOf dels m) (hnq : nd (rowOf dels m) p = q)
    (hlt : ¬ sq (rowOf dels dl) j < sq (rowOf dels m) p) (hlast : ∀ i', i < i' → i' < k → NotIn dels (ix zs i').toNat q) (hu : ∀ i j, i < lenOf dels m → j < lenOf dels m → nd (rowOf dels m) i = nd (rowOf dels m) j → i = j) : ¬ Trip dels zs k dl j := by
  rintro ⟨i', p', m', hi', hm', hpl', hnd', hlt', hlast'⟩
  rcases Nat.lt_trichotomy i i' with h | h | h
  · have := hlast i' h hi'
    rw [hm', Int.toNat_natCast] at this
    exact this p' hpl' (hnd'.trans hq)
  · subst h
    rw [hm] at hm'
    obtain rfl : m = m' := by omega
    have := hu p p' hpl hpl' (hnq.trans (hnd'.trans hq).symm)
    subst this
    exact hlt hlt'
  · have := hlast' i h hi
    rw [hm, Int.toNat_natCast, hq] at this
    exact this p hpl hnq

set_option maxRecDepth 100000 in
set_option maxHeartbeats 4000000 in
theorem failsNote_any (tb bb ob nb B n n' c c' M dl fs p : Nat) (d : BcD) (dels : List (List (Int × Int))) (N : Nat → ByteArray) (orders : List (List Int)) (V : Nat → Value) (node : ByteArray) (w : World) (hT : Talks w)
    (ht : w.rowIs tb 53 2 (tcell bb (.slice (some ⟨ob, 0, none⟩) n c))) (b : Bc w bb (.slice (some ⟨nb, 0, none⟩) n' c') d dels M dl fs) (hN : Names w nb n' N) (hid : ∀ m, (d.id m).size ≤ 1048576)
    (hor : Nest EI 58 3 1 B w (.slice (some ⟨ob, 0, none⟩) n c) orders V) (hon : orders.length = n) (hB : B ≤ w.heap.size) (hdl : dl < M) (hfs : fs < lenOf dels dl) (hp : nd (rowOf dels dl) fs = (p : Int)) (hpn : p < n) (_hn : n ≤ 65536)
    (hnodes : ∀ m, m < M → ∀ j, j < lenOf dels m → ∃ q : Nat, nd (rowOf dels m) j = (q : Int) ∧ q < n') (huniq : ∀ m, m < M → ∀ i j, i < lenOf dels m → j < lenOf dels m → nd (rowOf dels m) i = nd (rowOf dels m) j → i = j)
    (hzs : ∀ j, j < lenOf orders p → ∃ m : Nat, ix (rowOf orders p) j = (m : Int) ∧ m < M) (hk : lenOf orders p ≤ 65535) :
    Calls Tryf.prog 15 #[.pointer (some ⟨tb, 0, none⟩), .agg (lineA (sq (rowOf dels dl) fs) ⟨#[110, 111, 116, 101]⟩ none 0 0 node)] w fun e w' => FailsPost dels (rowOf orders p) (lenOf orders p) dl fs e ∧
      w'.rowIs tb 53 2 (tcell bb (.slice (some ⟨ob, 0, none⟩) n c)) ∧ (∃ V', Nest EI 58 3 1 B w' (.slice (some ⟨ob, 0, none⟩) n c) (orders.set p (rowOf orders p ++ [(dl : Int)])) V') ∧ Keep (tyB B w [58, 3]) w w' := by
  have t0 : w.cell? ⟨tb, 0, none⟩ = some (.pointer (some ⟨bb, 0, none⟩)) := ht.cell (i := 0) (by decide)
  have lt := ht.lt
  have HBc : Hid _ := b
  have HOr : Hid _ := hor
  have HT : Hid _ := ht
  clear ht hor
  have b6 : w.cell? ⟨bb, 6, none⟩ = some (.int .i64 dl) := b.box.cell (i := 6) (by decide)
  have b7 : w.cell? ⟨bb, 7, none⟩ = some (.int .i64 fs) := b.box.cell (i := 7) (by decide)
  have lb := b.box.lt
  clear b
  unfold lineA
  go_enter Tryf.func15, Tryf.ntmps15
  go_wp2_with fail
  refine Calls.mono (delivers_any bb _ d dels M dl fs (sq (rowOf dels dl) fs) ⟨#[110, 111, 116, 101]⟩ none 0 0 node _ (HBc.out.below (w' := w.alloc (.cells (lineA (sq (rowOf dels dl) fs) ⟨#[110, 111, 116, 101]⟩ none 0 0 node) 39)) ((Below.refl _ w).alloc (Nat.le_refl _) _)) hdl hfs) ?_
  rintro e w1 ⟨rfl, hb1⟩
  have hbw : Below w.heap.size w w1 := ((Below.refl _ w).alloc (Nat.le_refl _) _).trans (hb1.mono (by simp))
  have lt0 := lt
  clear hb1 t0 b6 b7 lb lt
  have b1 := HBc.out.below hbw
  have ht1 := row_below HT.out hbw lt0
  have or1 := HOr.out.below hbw
  have t0 : w1.cell? ⟨tb, 0, none⟩ = some (.pointer (some ⟨bb, 0, none⟩)) := ht1.cell (i := 0) (by decide)
  have t1 : w1.cell? ⟨tb, 1, none⟩ = some (.slice (some ⟨ob, 0, none⟩) n c) := ht1.cell (i := 1) (by decide)
  have b6 : w1.cell? ⟨bb, 6, none⟩ = some (.int .i64 dl) := b1.box.cell (i := 6) (by decide)
  have b7 : w1.cell? ⟨bb, 7, none⟩ = some (.int .i64 fs) := b1.box.cell (i := 7) (by decide)
  have lb := b1.box.lt
  have lt := ht1.lt
  have hmsg := b1.msg hdl
  have m3 := hmsg.fld
  have mn := hmsg.node fs hfs
  rw [hp] at mn
  have hsm := hmsg.small
  obtain ⟨g, hg, hBg, hgl, hcc, oc, of⟩ := Nest.cell (a := some ⟨ob, 0, none⟩) (by rw [hon]; exact or1) (i := p) (by omega)
  cases hg
  have hin : w1.ownsRow B 3 1 (V p) (lenOf orders p) (EI (rowOf orders p)) := or1.inner p (by omega)
  obtain ⟨ak, ck, hVp, hkm, _, hga⟩ := own_form hin
  rw [hVp] at oc hin
  have y1 : (0 : Int) ≤ (p : Int) := by omega
  have y2 : (p : Int) < (n : Int) := by omega
  have y3 : (0 : Int) ≤ (fs : Int) := by omega
  have y4 : (fs : Int) < (lenOf dels dl : Int) := by omega
  have far : ∀ b t n f, w1.rowIs b t n f → t ≠ 3 → (Value.slice ak (lenOf orders p) ck).ownBlock ≠ some b := by
    intro b t n f hr hne e
    exact row_notin (T := [3]) hr (by simpa using hne) (own_in (T := [3]) hin (by simp) b e)
  have far1 := far _ _ _ _ ht1 (by decide)
  have far2 := far _ _ _ _ b1.box (by decide)
  have far3 : (Value.slice ak (lenOf orders p) ck).ownBlock ≠ some ob := by
    intro e
    obtain ⟨c1, t1, f1, e1, m1⟩ := own_in (T := [58]) or1.outer (by simp) ob rfl
    obtain ⟨c2, t2, f2, e2, m2⟩ := own_in (T := [3]) hin (by simp) ob e
    rw [e1] at e2
    cases e2
    simp at m1 m2
    rw [m1] at m2
    exact absurd m2 (by decide)
  have hto : tb ≠ ob := by
    rintro rfl
    exact row_notin (T := [58]) ht1 (by decide) (own_in (T := [58]) or1.outer (by simp) _ rfl)
  have hbo : bb ≠ ob := by
    rintro rfl
    exact row_notin (T := [58]) b1.box (by decide) (own_in (T := [58]) or1.outer (by simp) _ rfl)
  clear far
  have HB1 : Hid _ := b1
  have HO1 : Hid _ := or1
  have HT1 : Hid (w1.rowIs tb 53 2 (tcell bb (.slice (some ⟨ob, 0, none⟩) n c))) := ht1
  have HIN : Hid (w1.ownsRow B 3 1 (.slice ak (lenOf orders p) ck) (lenOf orders p) (EI (rowOf orders p))) := hin
  have HBW : Hid _ := hbw
  have hBw : B ≤ w1.heap.size := Nat.le_trans hB hbw.size
  clear b1 or1 ht1 hmsg hin hbw
  generalize hmb : d.mb = mb at *
  obtain ⟨i0, hi0, hz0, hz1, hz2⟩ := info_parts z3
  go_wp2
  go_quiet (fail)
  go_wp2
  go_cut [70] (fun _ wc => (∃ V', Nest EI 58 3 1 B wc (.slice (some ⟨ob, 0, none⟩) n c) (orders.set p (rowOf orders p ++ [(dl : Int)])) V') ∧ Keep (tyB B w [58, 3]) w wc ∧ Rd wc ak (lenOf orders p) (rowOf orders p))
  case first =>
    go_region_held3 (fun w' => w'.cell? ⟨tb, 1, none⟩ = some (.slice (some ⟨ob, 0, none⟩) n c) ∧ w'.cell? ⟨bb, 6, none⟩ = some (.int .i64 dl))
      (first
        | go_keep
        | (go_split_ands
           refine ⟨?_, ?_⟩
           · (rw [hgrow.cell_far _ (by simp; omega) (Ne.symm far1)]; assumption)
           · (rw [hgrow.cell_far _ (by simp; omega) (Ne.symm far2)]; assumption))
        | (go_split_ands
           refine ⟨?_, ?_⟩
           · exact (World.cell?_of_block (a := ⟨tb, 1, none⟩) (Below.heap_setCell _ _ _ _ hto)).trans (by assumption)
           · exact (World.cell?_of_block (a := ⟨bb, 6, none⟩) (Below.heap_setCell _ _ _ _ hbo)).trans (by assumption)))
      ((refine step_append_old (by rfl) _ _ _ (by rfl) B 3 i0 _ 1 8 Tryf.underlying58 hi0 hz0 hz1 hz2 rfl (by omega) (.slice ak (lenOf orders p) ck) (lenOf orders p) (EI (rowOf orders p)) (by rfl) ((HIN.out.alloc _).drew)
          ⟨w1.heap.size, 0, none⟩ 1 1 [.int .i64 dl] (by rfl) (by rfl) (World.news_of_block (cs := #[.int .i64 dl]) (t := 3) (fr := (0, 0)) (heap_alloc_new w1 _)) (by intro u hu; simp at hu; subst hu; rfl)
          (by unfold maxLen; omega) (by omega) (by simp; omega) ?_; intro a' c' w2 hown1 hgrow hat hold;
        have oc2 : w2.cell? ⟨ob, p, none⟩ = some (.slice ak (lenOf orders p) ck) := ((hgrow.cell_far ⟨ob, p, none⟩ (by simp; omega) (Ne.symm far3)).trans ((cell_alloc_past w1 _ ⟨ob, p, none⟩ hgl).trans oc));
        have of2 : w2.frozen? ⟨ob, p, none⟩ = false := ((hgrow.frozen_far ⟨ob, p, none⟩ (by simp; omega) (Ne.symm far3)).trans ((frozen_alloc_past w1 _ ⟨ob, p, none⟩ hgl).trans of))))
    go_wp2
    go_meet
    case rel =>
      refine push_world ?_ hon hpn rfl hVp hown1 hgrow hat hold ?_ ?_ ?_
      · exact (HO1.out.drewN _).alloc _
      · exact ((Keep.of_below HBW.out).drewN _).alloc _
      · exact Or.inl ⟨(HOr.out.outer.lt ob rfl).1, own_in HOr.out.outer (by simp) _ rfl⟩
      · exact fun g hg => Or.inl ⟨((HOr.out.inner p (by omega)).lt g hg).1, own_in (HOr.out.inner p (by omega)) (by simp) g hg⟩
  case rest =>
    obtain ⟨⟨V', hor2⟩, hK, hrd⟩ := hcut
    obtain ⟨w3, rfl⟩ : ∃ x : World, x = wc := ⟨_, rfl⟩
    clear t0 t1 b6 b7 lb lt mn hsm hcc of oc m3 HB1 HO1 HT1 HIN HBW hBw far1 far2 far3 hto hbo hBg hgl hga hkm
    have b3 := HBc.out.keep hK.ty (by decide)
    have ht3 := hK.ty.row HT.out (row_notin HT.out (by decide))
    have hN3 : Names w3 nb n' N := ⟨hK.ty.row hN.row (row_notin hN.row (by decide)), hN.small, hN.few⟩
    have hT3 := hT.of_tape hK.tape
    have t0 : w3.cell? ⟨tb, 0, none⟩ = some (.pointer (some ⟨bb, 0, none⟩)) := ht3.cell (i := 0) (by decide)
    have b7 : w3.cell? ⟨bb, 7, none⟩ = some (.int .i64 fs) := b3.box.cell (i := 7) (by decide)
    have hmsg := b3.msg hdl
    rw [hmb] at hmsg
    have m3 := hmsg.fld
    have hsm := hmsg.small
    have y5 : (fs : Int) ≤ (lenOf dels dl : Int) := by omega
    have HK : Hid _ := hK
    have HOR2 : Hid (Nest EI 58 3 1 B w3 (.slice (some ⟨ob, 0, none⟩) n c) (orders.set p (rowOf orders p ++ [(dl : Int)])) V') := hor2
    have HT3 : Hid (w3.rowIs tb 53 2 (tcell bb (.slice (some ⟨ob, 0, none⟩) n c))) := ht3
    have HRD : Hid (Rd w3 ak (lenOf orders p) (rowOf orders p)) := hrd
    have HTK : Hid (Talks w3) := hT3
    have HMS : Hid (MsgAt w3 mb (dl * 4) (d.D dl) (lenOf dels dl) (rowOf dels dl)) := hmsg
    have HB3 : Hid _ := b3
    clear b3 ht3 hK hor2 hrd hT3 hmsg hT HBc HOr HT hN
    go_wp2
    go_quiet (fail)
    go_wp2
    go_loopw [82] (fun vi wr => ∃ j : Nat, j ≤ fs ∧ vi = .int .i64 j ∧ Below w3.heap.size w3 wr ∧ ∀ i, i < j → ¬ Trip dels (rowOf orders p) (lenOf orders p) dl i) (fun vi _ => fs - (intOf vi).toNat)
    case atStart => exact ⟨0, by omega, rfl, bdrewN (Below.refl _ _) _, fun j hj => by omega⟩
    case round =>
      clear t0 b7 m3
      obtain ⟨j, hj, rfl, hbr, hno⟩ := hrel
      obtain ⟨wo, rfl⟩ : ∃ x : World, x = wr := ⟨_, rfl⟩
      have fin : ∀ w', Below wo.heap.size wo w' → w'.rowIs tb 53 2 (tcell bb (.slice (some ⟨ob, 0, none⟩) n c)) ∧ (∃ V', Nest EI 58 3 1 B w' (.slice (some ⟨ob, 0, none⟩) n c) (orders.set p (rowOf orders p ++ [(dl : Int)])) V') ∧ Keep (tyB B w [58, 3]) w w' := by
        intro w' hb
        have hb3 : Below w3.heap.size w3 w' := hbr.trans (hb.mono hbr.size)
        exact ⟨row_below HT3.out hb3 HT3.out.lt, ⟨V', HOR2.out.below hb3⟩, ⟨hb3.os.trans HK.out.os, hb3.tape.trans HK.out.tape, hb3.output.trans HK.out.output, Nat.le_trans HK.out.size hb3.size, fun k hk hs => (hb3.block k (Nat.lt_of_lt_of_le hk HK.out.size)).trans (HK.out.block k hk hs)⟩⟩
      have FIN : Hid _ := fin
      clear fin
      by_cases hjf : j < fs
      · have hjl : j < lenOf dels dl := by omega
        obtain ⟨qn, hqn, hqn'⟩ := hnodes dl hdl j hjl
        have hms := HMS.out.below hbr
        have n1 := hms.node j hjl
        have n2 := hms.seq j hjl
        rw [hqn] at n1
        have HNO : Hid _ := hno
        have HBR : Hid _ := hbr
        have bo := HB3.out.below hbr
        have ho0 := row_below HT3.out hbr HT3.out.lt
        have hrd := HRD.out.below hbr
        clear hms hno hbr
        have hal : Below wo.heap.size wo (wo.alloc (.cells #[.int .i64 (qn : Int), .int .i64 (sq (rowOf dels dl) j)] 61)) := (Below.refl _ _).alloc (Nat.le_refl _) _
        go_wp2_with fail
        refine Calls.mono (lastShared_any tb bb _ d dels M dl fs (lenOf orders p) ck ak (rowOf orders p) (qn : Int) _ (bo.below hal) ((hal.cell (World.block_lt_of_cell? _ _ (ho0.cell (i := 0) (by decide)))).trans (ho0.cell (i := 0) (by decide))) (hrd.below hal) (by omega) hzs) ?_
        rintro e w4 ⟨hsh, hb4⟩
        have hbo4 : Below wo.heap.size wo w4 := hal.trans (hb4.mono hal.size)
        have q0 : w4.cell? ⟨wo.heap.size, 0, none⟩ = some (.int .i64 (qn : Int)) := (hb4.cell (p := ⟨wo.heap.size, 0, none⟩) (by simp)).trans (World.cell?_alloc_at _ _ _ _ rfl)
        have q1 : w4.cell? ⟨wo.heap.size, 1, none⟩ = some (.int .i64 (sq (rowOf dels dl) j)) := (hb4.cell (p := ⟨wo.heap.size, 1, none⟩) (by simp)).trans (World.cell?_alloc_at _ _ _ _ rfl)
        have l4 : wo.heap.size < w4.heap.size := Nat.lt_of_lt_of_le (by simp) hb4.size
        have HB4 : Hid (Below wo.heap.size wo w4) := hbo4
        clear hb4 hbo4 hal n1 n2 hrd
        rcases hsh with ⟨rfl, hnone⟩ | ⟨i, pp, m, hi, hm, hpl, hnq, rfl, hlast⟩
        · have HNN : Hid (¬ Trip dels (rowOf orders p) (lenOf orders p) dl j) := trip_none hqn hnone
          clear hnone
          go_wp2
          go_roundw
          case rel => exact ⟨j + 1, by omega, by go_num, HBR.out.trans ((HB4.out.alloc HB4.out.size _).mono HBR.out.size), upto_succ HNO.out HNN.out⟩
          case measure => simp [intOf]; omega
        · have hmM : m < M := by
            obtain ⟨m', h1, h2⟩ := hzs i hi
            rw [hm] at h1
            omega
          rw [hnq]
          by_cases hlt : sq (rowOf dels dl) j < sq (rowOf dels m) pp
          · have HTR : Hid (Trip dels (rowOf orders p) (lenOf orders p) dl j) := ⟨i, pp, m, hi, hm, hpl, by rw [hqn]; exact hnq, hlt, by rw [hqn]; exact hlast⟩
            clear hlast
            have hB5 : Below wo.heap.size wo (w4.alloc (.cells #[.int .i64 (qn : Int), .int .i64 (sq (rowOf dels m) pp)] 61)) := HB4.out.alloc HB4.out.size _
            have hq5 : (w4.alloc (.cells #[.int .i64 (qn : Int), .int .i64 (sq (rowOf dels m) pp)] 61)).cell? ⟨wo.heap.size, 0, none⟩ = some (.int .i64 (qn : Int)) := (cell_alloc_past _ _ _ l4).trans q0
            have HB5 : Hid _ := hB5
            have HQ5 : Hid _ := hq5
            clear hB5 hq5
            go_wp2
            generalize hw5 : w4.alloc (.cells #[.int .i64 (qn : Int), .int .i64 (sq (rowOf dels m) pp)] 61) = w5 at *
            have h35 : Below w3.heap.size w3 w5 := HBR.out.trans (HB5.out.mono HBR.out.size)
            have bx := HB3.out.below h35
            have tx := row_below HT3.out h35 HT3.out.lt
            have nx : Names w5 nb n' N := ⟨row_below hN3.row h35 hN3.row.lt, hN3.small, hN3.few⟩
            have tk : Talks w5 := HTK.out.of_tape h35.tape
            have s1 := HQ5.out
            have s2 : w5.cell? ⟨mb, dl * 4, none⟩ = some (.string (d.id dl)) := by rw [← hmb, bx.msgs.cell (by omega), mcell_id]
            have s3 : w5.cell? ⟨bb, 3, none⟩ = some (.slice (some ⟨mb, 0, none⟩) M M) := by rw [← hmb]; exact bx.box.cell (i := 3) (by decide)
            have s4 : w5.cell? ⟨mb, m * 4, none⟩ = some (.string (d.id m)) := by rw [← hmb, bx.msgs.cell (by omega), mcell_id]
            have s5 : w5.cell? ⟨bb, 0, none⟩ = some (.slice (some ⟨nb, 0, none⟩) n' c') := bx.box.cell (i := 0) (by decide)
            have s6 : w5.cell? ⟨tb, 0, none⟩ = some (.pointer (some ⟨bb, 0, none⟩)) := tx.cell (i := 0) (by decide)
            have hpn' : p < n' := by
              obtain ⟨p', h1, h2⟩ := hnodes dl hdl fs hfs
              rw [hp] at h1
              omega
            have hMs := bx.small
            have x1 : (0 : Int) ≤ (m : Int) := by omega
            have x2 : (m : Int) < (M : Int) := by omega
            clear bx tx h35 HQ5 hw5 q0 q1 l4
            go_region_held3 (fun w' => w'.cell? ⟨wo.heap.size, 0, none⟩ = some (.int .i64 (qn : Int)) ∧ w'.cell? ⟨mb, dl * 4, none⟩ = some (.string (d.id dl)) ∧ w'.cell? ⟨bb, 3, none⟩ = some (.slice (some ⟨mb, 0, none⟩) M M) ∧ w'.cell? ⟨mb, m * 4, none⟩ = some (.string (d.id m)))
              (first | go_keep | (exact ⟨(hbp.cell (World.block_lt_of_cell? _ _ s1)).trans s1, (hbp.cell (World.block_lt_of_cell? _ _ s2)).trans s2, (hbp.cell (World.block_lt_of_cell? _ _ s3)).trans s3, (hbp.cell (World.block_lt_of_cell? _ _ s4)).trans s4⟩))
              ((go_at_call 23; refine (parted_any tb bb nb n' c' p qn N (d.id dl) (d.id m) w5.drew (tk.of_tape rfl) s6 s5 (nx.alike rfl) hpn' hqn' (hid dl) (hid m)).mono ?_; rintro e w6 ⟨t, rfl, htn, hb6⟩; have hbp : Below w5.heap.size w5 w6 := ⟨hb6.os, hb6.tape, hb6.output, hb6.size, hb6.block⟩))
            go_wp2
            go_ret
            exact ⟨⟨_, rfl, Or.inl ⟨htn, j, hjf, HTR.out⟩⟩, FIN.out _ (HB5.out.trans (hbp.mono HB5.out.size))⟩
          · have HNN : Hid (¬ Trip dels (rowOf orders p) (lenOf orders p) dl j) := trip_late hqn hi hm hpl hnq hlt hlast (huniq m hmM)
            clear hlast
            go_wp2
            go_roundw
            case rel => exact ⟨j + 1, by omega, by go_num, HBR.out.trans ((HB4.out.alloc HB4.out.size _).mono HBR.out.size), upto_succ HNO.out HNN.out⟩
            case measure => simp [intOf]; omega
      · have HNO : Hid _ := hno
        have HBR : Hid _ := hbr
        clear hno hbr
        go_wp2
        go_ret
        exact ⟨⟨_, rfl, Or.inr ⟨rfl, fun i hi => HNO.out i (by omega)⟩⟩, FIN.out _ (Below.refl _ _)⟩
end Go.Proofs.Qxb6616309aFmt
