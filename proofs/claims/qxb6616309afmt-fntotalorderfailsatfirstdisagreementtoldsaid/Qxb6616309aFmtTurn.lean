/-
  THE TURNS OF THE LAW's LOOP: what each part of a step leaves.
-/
import Derived.Test.Qxb6616309aFmtHead
namespace Go.Proofs.Qxb6616309aFmt
open Go.RowKit

/-- the step's variable -/
abbrev box26 (a b : Nat) : Obj := .cells #[.int .i64 (a : Int), .int .i64 (b : Int)] 26
def bx (a b : Nat) : Nat → Value
  | 0 => .int .i64 (a : Int)
  | _ => .int .i64 (b : Int)
abbrev wNew (wo : World) (pb gt nx ft : Nat) : World := (wo.setCell ⟨pb, gt, none⟩ (.int .i64 (nx : Int))).alloc (box26 ft gt)

theorem row_in {w : World} {b t n : Nat} {f : Nat → Value} {T : List TypeId} (r : w.rowIs b t n f) (h : t ∈ T) : tyS w T b := by
  obtain ⟨c, e, _⟩ := r
  exact ⟨c, t, _, e, h⟩
theorem tyS_alloc {w : World} {T : List TypeId} {k : Nat} (o : Obj) (h : tyS w T k) : tyS (w.alloc o) T k := by
  obtain ⟨c, t, fr, e, ht⟩ := h
  exact ⟨c, t, fr, (Below.heap_alloc _ _ _ (Array.getElem?_eq_some_iff.1 e).1).trans e, ht⟩
theorem Nest.ty {α : Type} {E : List α → List Value} {tp ti sz B : Nat} {w w' : World} {v : Value} {rows : List (List α)} {V : Nat → Value} {T : List TypeId} (N : Nest E tp ti sz B w v rows V) (h : Keep (tyS w T) w w') (h1 : tp ∉ T) (h2 : ti ∉ T) : Nest E tp ti sz B w' v rows V := by
  refine N.keep h (fun k c t fr e ht => ?_)
  rintro ⟨c', t', fr', e', hm⟩
  rw [e] at e'
  cases e'
  rcases ht with rfl | rfl
  · exact h1 hm
  · exact h2 hm

theorem nest_wnew {B pb gt nx ft : Nat} {wo : World} {v : Value} {ds : List (List (Int × Int))} {V : Nat → Value} {F : Nat → Value} (hN : Nest ED 43 45 2 B wo v ds V) (hr : wo.rowIs pb 28 256 F) : Nest ED 43 45 2 B (wNew wo pb gt nx ft) v ds V := by
  have K : Keep (fun k => k = pb) wo (wNew wo pb gt nx ft) := ((Keep.refl (fun k => k = pb) wo).setCell (a := ⟨pb, gt, none⟩) (Or.inl rfl) _).alloc _
  refine hN.keep K (fun k' c' t' fr' he ht e => ?_)
  subst e
  obtain ⟨c1, h1, _⟩ := hr
  rw [h1] at he
  cases he
  rcases ht with ht | ht <;> exact absurd ht (by decide)

theorem mid_new {B pb ob n t cd c1 : Nat} {W wo w5 : World} {a0 ad a1 : Option Addr} {N : Nat → ByteArray} {f g : Nat → Nat} {ds : List (List (Int × Int))} {V : Nat → Value} (HST : St B W wo a0 N pb ob n t f g ad cd) (hp : (plAt g t).of (g t) < 0) (hB : B ≤ pb)
    (hN : Nest ED 43 45 2 B wo (.slice ad (plAt g t).nx cd) ds V) (hI : Inv n t (plAt g t).nx ds (ordAt f g n t))
    (hown : w5.ownsRow B 43 1 (.slice a1 ((plAt g t).nx + 1) c1) ((plAt g t).nx + 1) ((List.range (plAt g t).nx).map V ++ [.slice none 0 0]))
    (hgrow : ((wNew wo pb (g t) (plAt g t).nx (f t)).alloc (.cells #[.slice none 0 0] 43)).grownBy w5 (Value.slice ad (plAt g t).nx cd).ownBlock) : Mid B (wo.alloc (box26 (f t) (g t))) w5 pb n t f g a1 c1 := by
  obtain ⟨q1, _⟩ := pl_new hp
  have hNX := (nest_wnew (gt := g t) (nx := (plAt g t).nx) (ft := f t) hN HST.pl).alloc (.cells #[.slice none 0 0] 43)
  have row0 : ((wNew wo pb (g t) (plAt g t).nx (f t)).alloc (.cells #[.slice none 0 0] 43)).rowIs pb 28 256 (fun j => .int .i64 ((plAt g (t + 1)).of j)) := by
    rw [q1]
    exact (((HST.pl.set (g t) _).alloc _).alloc _).congr fun j _ => upd_cell _ _ _ _
  have far : (Value.slice ad (plAt g t).nx cd).ownBlock ≠ some pb := fun e => by
    obtain ⟨c2, t2, f2, e2, m2⟩ := own_in (T := [43]) hN.outer (by simp) _ e
    obtain ⟨c0, e0, _⟩ := HST.pl
    rw [e0] at e2
    cases e2
    exact absurd m2 (by decide)
  have hG := hNX.grew (by decide) (v' := .slice a1 ((plAt g t).nx + 1) c1) rfl (by rw [hI.dlen]; exact hown) hgrow
  refine ⟨row0.of_block (hgrow.block pb row0.lt (fun e => far e.symm)), ?_, ?_⟩
  · rw [q1]
    exact ⟨_, _, hG, hI.grow⟩
  · have K0 : Keep (tyB B (wo.alloc (box26 (f t) (g t))) [28, 43]) (wo.alloc (box26 (f t) (g t))) (wNew wo pb (g t) (plAt g t).nx (f t)) :=
      (keep_set_alloc (S := fun k => k = pb) wo ⟨pb, g t, none⟩ _ _ rfl).mono (fun k _ e => by
        subst e
        exact ⟨hB, tyS_alloc _ (row_in HST.pl (by simp))⟩)
    exact (K0.alloc _).grown hgrow (fun g0 hg0 => Or.inl ⟨(hN.outer.lt g0 hg0).1, tyS_alloc _ (own_in hN.outer (by simp) g0 hg0)⟩)
theorem mid_old {B pb ob n t cd : Nat} {W wo : World} {a0 ad : Option Addr} {N : Nat → ByteArray} {f g : Nat → Nat} (HST : St B W wo a0 N pb ob n t f g ad cd) (hp : ¬ (plAt g t).of (g t) < 0) : Mid B (wo.alloc (box26 (f t) (g t))) (wo.alloc (box26 (f t) (g t))) pb n t f g ad cd := by
  obtain ⟨q1, _⟩ := pl_old hp
  obtain ⟨ds, V, hN, hI⟩ := HST.dels
  refine ⟨?_, ⟨ds, V, ?_, ?_⟩, Keep.refl _ _⟩
  · rw [q1]; exact HST.pl.alloc _
  · rw [q1]; exact hN.alloc _
  · rw [q1]; exact hI

theorem Mid.box {B pb n t cd : Nat} {wo wc : World} {ad : Option Addr} {f g : Nat → Nat} (h : Mid B (wo.alloc (box26 (f t) (g t))) wc pb n t f g ad cd) : wc.rowIs wo.heap.size 26 2 (bx (f t) (g t)) := by
  have r : (wo.alloc (box26 (f t) (g t))).rowIs wo.heap.size 26 2 (bx (f t) (g t)) := by
    refine World.rowIs_alloc wo _ 26 _ (fun i hi => ?_)
    have hi : i < 2 := hi
    match i, hi with
    | 0, _ => rfl
    | 1, _ => rfl
  exact h.keep.ty.row r (row_notin r (by decide))

theorem late_again {B n t m fs p cd : Nat} {w : World} {f g : Nat → Nat} {ad : Option Addr} {ds : List (List (Int × Int))} {V : Nat → Value} (hN : Nest ED 43 45 2 B w (.slice ad (plAt g (t + 1)).nx cd) ds V) (hI : Inv n t (plAt g (t + 1)).nx ds (ordAt f g n t)) (hp : p < n) (hf : f t = p) (hm : plOf g t = m) (hd : DelAt ds m p fs) : Late B w w n t m fs p f g ad cd :=
  ⟨⟨ds, V, hN, told_again hI hp hf hm hd⟩, Keep.refl _ _⟩
theorem late_new {B n t m p cd db ck c' : Nat} {w w' : World} {f g : Nat → Nat} {ak a' : Option Addr} {ds : List (List (Int × Int))} {V : Nat → Value} (hN : Nest ED 43 45 2 B w (.slice (some ⟨db, 0, none⟩) (plAt g (t + 1)).nx cd) ds V) (hI : Inv n t (plAt g (t + 1)).nx ds (ordAt f g n t)) (hp : p < n) (hf : f t = p) (hm : plOf g t = m) (hd : ∀ j, ¬ DelAt ds m p j)
    (hV : V m = .slice ak (lenOf ds m) ck) (h1 : w'.ownsRow B 45 2 (.slice a' (lenOf ds m + 1) c') (lenOf ds m + 1) (ED (rowOf ds m) ++ [.int .i64 (p : Int), .int .i64 ((t : Int) + 2)])) (hg : ((w.drewN 1).alloc (.cells #[.int .i64 (p : Int), .int .i64 ((t : Int) + 2)] 45)).grownBy w' (Value.slice ak (lenOf ds m) ck).ownBlock)
    (hat : (Value.slice a' (lenOf ds m + 1) c').ownBlock = (Value.slice ak (lenOf ds m) ck).ownBlock ∨ ∃ g0, (Value.slice a' (lenOf ds m + 1) c').ownBlock = some g0 ∧ ((w.drewN 1).alloc (.cells #[.int .i64 (p : Int), .int .i64 ((t : Int) + 2)] 45)).heap.size ≤ g0) :
    Late B w (w'.setCell ⟨db, m, none⟩ (.slice a' (lenOf ds m + 1) c')) n t m (lenOf ds m) p f g (some ⟨db, 0, none⟩) cd := by
  have hml : m < (plAt g (t + 1)).nx := by rw [← hm]; exact (plOf_lt g t).1
  have hin := hN.inner m (by rw [hI.dlen]; exact hml)
  obtain ⟨⟨V', h2⟩, h3⟩ := push_del (S := tyB B w [43, 45]) (x := ((p : Int), (t : Int) + 2)) ((hN.drewN 1).alloc _) hI.dlen hml rfl hV h1 hg hat (((Keep.refl _ w).drewN 1).alloc _) (Or.inl ⟨(hN.outer.lt db rfl).1, own_in hN.outer (by simp) _ rfl⟩) (fun g0 hg0 => Or.inl ⟨(hin.lt g0 hg0).1, own_in hin (by simp) g0 hg0⟩)
  exact ⟨⟨_, V', h2, told_new hI hp hml hf hm hd⟩, h3⟩

/-- what still stands when 'fails' is called -/
structure Ahead (B : Nat) (W w : World) (a0 : Option Addr) (N : Nat → ByteArray) (pb ob sb n t m fs p : Nat) (f g : Nat → Nat) (ad : Option Addr) (cd : Nat) : Prop where
  names : NodesOk w a0 n N
  pl : w.rowIs pb 28 256 (fun j => .int .i64 ((plAt g (t + 1)).of j))
  dels : ∃ ds V, Nest ED 43 45 2 B w (.slice ad (plAt g (t + 1)).nx cd) ds V ∧ Told n t (plAt g (t + 1)).nx p m fs ds (ordAt f g n t) (ordAt f g n (t + 1))
  ords : ∃ V, Nest EI 58 3 1 B w (.slice (some ⟨ob, 0, none⟩) n n) (ordAt f g n t) V
  agree : AgreeP n (ordAt f g n t)
  below : Below B W w
  size : B ≤ w.heap.size
  box : w.rowIs sb 26 2 (bx (f t) (g t))

theorem ahead_mk {B pb ob n t m fs p cd cd1 : Nat} {W wo wm w4 w5 : World} {a0 ad ad1 : Option Addr} {N : Nat → ByteArray} {f g : Nat → Nat} (HST : St B W wo a0 N pb ob n t f g ad cd) (hM : Mid B (wo.alloc (box26 (f t) (g t))) wm pb n t f g ad1 cd1) (hb4 : Below wm.heap.size wm w4) (hL : Late B w4 w5 n t m fs p f g ad1 cd1) (hB : B ≤ wo.heap.size) :
    Ahead B W w5 a0 N pb ob wo.heap.size n t m fs p f g ad1 cd1 := by
  have hb0 : Below wo.heap.size wo (wo.alloc (box26 (f t) (g t))) := (Below.refl _ _).alloc (Nat.le_refl _) _
  have s0 : B ≤ (wo.alloc (box26 (f t) (g t))).heap.size := Nat.le_trans hB hb0.size
  have s1 : B ≤ wm.heap.size := Nat.le_trans s0 hM.keep.size
  have s4 : B ≤ w4.heap.size := Nat.le_trans s1 hb4.size
  have r4 := row_below hM.pl hb4 hM.pl.lt
  have bx4 := row_below hM.box hb4 hM.box.lt
  obtain ⟨V, hO⟩ := HST.ords
  refine ⟨(((HST.names.below hb0).keep hM.keep.ty (by decide)).below hb4).keep hL.keep.ty (by decide), hL.keep.ty.row r4 (row_notin r4 (by decide)), hL.dels, ⟨V, (((hO.alloc _).ty hM.keep.ty (by decide) (by decide)).below hb4).ty hL.keep.ty (by decide) (by decide)⟩, HST.agree, ?_, Nat.le_trans s4 hL.keep.size, hL.keep.ty.row bx4 (row_notin bx4 (by decide))⟩
  exact HST.below.trans ((hb0.mono hB).trans ((hM.keep.low s0).trans ((hb4.mono s1).trans (hL.keep.low s4))))
theorem Ahead.next {B pb ob sb n t m fs p cd : Nat} {W w w' : World} {a0 ad : Option Addr} {N : Nat → ByteArray} {f g : Nat → Nat} (h : Ahead B W w a0 N pb ob sb n t m fs p f g ad cd) (hb : Below w.heap.size w w') : Ahead B W w' a0 N pb ob sb n t m fs p f g ad cd := by
  obtain ⟨ds, V, hN, hT⟩ := h.dels
  obtain ⟨V2, hO⟩ := h.ords
  exact ⟨h.names.below hb, row_below h.pl hb h.pl.lt, ⟨ds, V, hN.below hb, hT⟩, ⟨V2, hO.below hb⟩, h.agree, h.below.trans (hb.mono h.size), Nat.le_trans h.size hb.size, row_below h.box hb h.box.lt⟩
theorem Ahead.st {B pb ob sb n t m fs p cd : Nat} {W w w' : World} {a0 ad : Option Addr} {N : Nat → ByteArray} {f g : Nat → Nat} (h : Ahead B W w a0 N pb ob sb n t m fs p f g ad cd) (hk : Keep (tyB B w [58, 3]) w w') (ho : ∃ V, Nest EI 58 3 1 B w' (.slice (some ⟨ob, 0, none⟩) n n) (ordAt f g n (t + 1)) V) (hA : AgreeP n (ordAt f g n (t + 1))) : St B W w' a0 N pb ob n (t + 1) f g ad cd := by
  obtain ⟨ds, V, hN, hT⟩ := h.dels
  exact ⟨h.names.keep hk.ty (by decide), hk.ty.row h.pl (row_notin h.pl (by decide)), ⟨ds, V, hN.ty hk.ty (by decide) (by decide), hT.inv⟩, ho, hA, h.below.trans (hk.low h.size)⟩
theorem Ahead.done {B pb ob sb n t m fs p cd k : Nat} {W w w' : World} {a0 ad : Option Addr} {N : Nat → ByteArray} {f g : Nat → Nat} (h : Ahead B W w a0 N pb ob sb n t m fs p f g ad cd) (hk : Keep (tyB B w [58, 3]) w w') (ho : ∃ V, Nest EI 58 3 1 B w' (.slice (some ⟨ob, 0, none⟩) n n) (ordAt f g n (t + 1)) V) (hA : ¬ AgreeP n (ordAt f g n (t + 1))) (ht : t < k) : Done B W w' ob n k (t + 1) f g := by
  refine ⟨by omega, by omega, ?_, h.agree, fun _ => hA, h.below.trans (hk.low h.size)⟩
  rw [Nat.min_eq_left (by omega)]
  exact ho
end Go.Proofs.Qxb6616309aFmt
