/-
  ONE STEP OF THE LAW's LOOP: the broadcasts' state from its parts, and what 'fails' says at the step.
-/
import Derived.Test.Qxb6616309aFmtPlain
namespace Go.Proofs.Qxb6616309aFmt
open Go.RowKit Go.Maps

theorem Keep.after_below {B : Nat} {T : List TypeId} {w w1 w2 : World} (hb : Below w.heap.size w w1) (h : Keep (tyB B w1 T) w1 w2) : Keep (tyB B w T) w w2 :=
  ⟨h.os.trans hb.os, h.tape.trans hb.tape, h.output.trans hb.output, Nat.le_trans hb.size h.size, fun k hk hs =>
    (h.block k (Nat.lt_of_lt_of_le hk hb.size) (fun ⟨hB, c, t, fr, e, ht⟩ => hs ⟨hB, c, t, fr, by rw [← hb.block k hk]; exact e, ht⟩)).trans (hb.block k hk)⟩
theorem Keep.then_below {S : Nat → Prop} {w w1 w2 : World} (h : Keep S w w1) (hb : Below w1.heap.size w1 w2) : Keep S w w2 := h.trans (Keep.of_below hb)
theorem Names.below {w w' : World} {nb n : Nat} {N : Nat → ByteArray} (h : Names w nb n N) (hb : Below w.heap.size w w') : Names w' nb n N := ⟨row_below h.row hb h.row.lt, h.small, h.few⟩
theorem Names.keep {T : List TypeId} {w w' : World} {nb n : Nat} {N : Nat → ByteArray} (h : Names w nb n N) (hk : Keep (tyS w T) w w') (hT : 9 ∉ T) : Names w' nb n N := ⟨hk.row h.row (row_notin h.row hT), h.small, h.few⟩

theorem bc_mk {w1 w2 w3 : World} {mb ib M m fs : Nat} {id : Nat → ByteArray} {D I : Nat → Nat} {ps : Nat → Nat → Nat} {ds : List (List (Int × Int))} {nv : Value} (h1 : MsgsOk w1 mb id D ds) (hb : Below w1.heap.size w1 w2) (h2 : IdxTo w2 ib M ds I ps) (hM : ds.length = M) (hMs : M ≤ 65536) (hls : ∀ m, m < M → lenOf ds m ≤ 65536)
    (e : w3 = w2.alloc (.cells #[nv, .map none, .map none, .slice (some ⟨mb, 0, none⟩) M M, .map (some ib), .int .i64 (-1), .int .i64 (m : Nat), .int .i64 (fs : Nat)] 56)) :
    Bc w3 w2.heap.size nv ⟨mb, ib, D, id, I, fun m => (List.range (lenOf ds m)).map (fun j => (ps m j : Int))⟩ ds M m fs := by
  have hb3 : Below w2.heap.size w2 w3 := by subst e; exact (Below.refl _ _).alloc (Nat.le_refl _) _
  have hib : ∃ es clock, w2.heap[ib]? = some (.map es clock) := by
    obtain ⟨D, ⟨es, clock, h, _⟩, _⟩ := h2.map
    exact ⟨es, clock, h⟩
  obtain ⟨es, clock, hmap⟩ := hib
  have hlt : ib < w2.heap.size := (Array.getElem?_eq_some_iff.1 hmap).1
  have hix : ∀ m j, j < lenOf ds m → ix ((List.range (lenOf ds m)).map (fun j => (ps m j : Int))) j = (ps m j : Int) := by
    intro m j hj
    unfold ix
    simp [hj]
  refine ⟨hM, hMs, hls, ?_, ?_, fun m hm => ?_, Nat.lt_of_lt_of_le hlt hb3.size, fun c t fr => ?_, fun m hm h8 => ⟨?_, ?_, fun w' e' => ?_⟩⟩
  · subst e
    refine World.rowIs_alloc w2 _ 56 _ (fun i hi => ?_)
    have hi : i < 8 := hi
    match i, hi with
    | 0, _ => rfl
    | 1, _ => rfl
    | 2, _ => rfl
    | 3, _ => rfl
    | 4, _ => rfl
    | 5, _ => rfl
    | 6, _ => rfl
    | 7, _ => rfl
  · subst hM
    have := row_below h1.row hb h1.row.lt
    exact row_below this hb3 this.lt
  · subst hM
    have := row_below (h1.ds m hm) hb (h1.ds m hm).lt
    exact row_below this hb3 this.lt
  · rw [hb3.block ib hlt, hmap]
    intro h
    cases h
  · obtain ⟨_, hr, _⟩ := h2.rows m hm h8
    exact (row_below hr hb3 hr.lt).congr fun j hj => by rw [hix m j hj]
  · obtain ⟨_, _, hp, ha⟩ := h2.rows m hm h8
    refine ⟨fun j hj => ⟨ps m j, hix m j hj, hp.lt j hj⟩, fun i hi => ?_, fun j k hjk hk => ?_⟩
    · obtain ⟨j, hj, hji⟩ := hp.onto i hi
      exact ⟨j, hj, by rw [hix m j hj, hji]⟩
    · rw [hix m j (by omega), hix m k hk, Int.toNat_natCast, Int.toNat_natCast]
      exact ha j k hjk hk
  · exact h2.look hm h8 (by omega) w' (e'.trans (hb3.block ib hlt))

/-- the step's delivery is an old one, or it is new -/
def Told (n i nx p m fs : Nat) (ds : List (List (Int × Int))) (os os' : List (List Int)) : Prop :=
  (Inv n (i + 1) nx ds os ∧ os' = os ∧ DelAt ds m p fs ∧ sq (rowOf ds m) fs ≠ (i : Int) + 2) ∨ ∃ ds1, Push n i nx nx p m ds1 ds os os' ∧ fs = lenOf ds1 m ∧ os' = os.set p (rowOf os p ++ [(m : Int)])
theorem Told.inv {n i nx p m fs : Nat} {ds : List (List (Int × Int))} {os os' : List (List Int)} (T : Told n i nx p m fs ds os os') : Inv n (i + 1) nx ds os' := by
  rcases T with ⟨h, rfl, _⟩ | ⟨ds1, H, _⟩
  · exact h
  · exact H.I'
theorem Told.at {n i nx p m fs : Nat} {ds : List (List (Int × Int))} {os os' : List (List Int)} (T : Told n i nx p m fs ds os os') : DelAt ds m p fs := by
  rcases T with ⟨_, _, h, _⟩ | ⟨ds1, H, rfl, _⟩
  · exact h
  · exact H.new

def StepPost (n : Nat) (os' : List (List Int)) (e : Ending) : Prop := ∃ t : ByteArray, e = .returned (.string t) ∧ ((t.data.toList ≠ [] ∧ ¬ AgreeP n os') ∨ (t = ByteArray.empty ∧ AgreeP n os'))

theorem step_any (tb bb ob nb B n c c' M m fs p i : Nat) (d : BcD) (ds : List (List (Int × Int))) (N : Nat → ByteArray) (os os' : List (List Int)) (V : Nat → Value) (node : ByteArray) (w : World) (hT : Talks w)
    (ht : w.rowIs tb 53 2 (tcell bb (.slice (some ⟨ob, 0, none⟩) n c))) (b : Bc w bb (.slice (some ⟨nb, 0, none⟩) n c') d ds M m fs) (hN : Names w nb n N) (hid : ∀ m, (d.id m).size ≤ 1048576)
    (hor : Nest EI 58 3 1 B w (.slice (some ⟨ob, 0, none⟩) n c) os V) (hon : os.length = n) (hB : B ≤ w.heap.size) (hpn : p < n) (hn : n ≤ 256) (hi : i ≤ 256) (hm : m < M) (T : Told n i M p m fs ds os os') (A : AgreeP n os) :
    Calls Tryf.prog 8 #[.pointer (some ⟨tb, 0, none⟩), .agg (lineA ((i : Int) + 2) ⟨#[110, 111, 116, 101]⟩ none 0 0 node)] w fun e w' => StepPost n os' e ∧
      w'.rowIs tb 53 2 (tcell bb (.slice (some ⟨ob, 0, none⟩) n c)) ∧ (∃ V', Nest EI 58 3 1 B w' (.slice (some ⟨ob, 0, none⟩) n c) os' V') ∧ Keep (tyB B w [58, 3]) w w' := by
  refine callFails_any tb ((i : Int) + 2) _ none 0 0 node w ?_
  have hb : Below w.heap.size w (w.alloc (.cells (lineA ((i : Int) + 2) ⟨#[110, 111, 116, 101]⟩ none 0 0 node) 39)) := (Below.refl _ _).alloc (Nat.le_refl _) _
  generalize w.alloc (.cells (lineA ((i : Int) + 2) ⟨#[110, 111, 116, 101]⟩ none 0 0 node) 39) = w1 at hb ⊢
  have hT1 : Talks w1 := hT.of_tape hb.tape
  have ht1 := row_below ht hb ht.lt
  have b1 := b.below hb
  have hN1 := hN.below hb
  have hor1 := hor.below hb
  have hB1 : B ≤ w1.heap.size := Nat.le_trans hB hb.size
  have hat := T.at
  rcases T with ⟨I, rfl, _, hs⟩ | ⟨ds1, H, rfl, hos⟩
  · refine Calls.mono (failsAgain_any tb bb M m fs _ _ d ds ((i : Int) + 2) node w1 ht1 b1 hm hat.1 hs) ?_
    rintro e w2 ⟨rfl, hb2⟩
    exact ⟨_, rfl, ⟨_, rfl, Or.inr ⟨rfl, A⟩⟩, row_below ht1 hb2 ht1.lt, ⟨V, hor1.below hb2⟩, Keep.after_below hb (Keep.of_below hb2)⟩
  · rw [← H.seq]
    have hol := H.I.olens p
    refine Calls.mono (failsNote_any tb bb ob nb B n n c c' M m (lenOf ds1 m) p d ds N os V node w1 hT1 ht1 b1 hN1 hid hor1 hon hB1 hm hat.1 hat.2 hpn (by omega) (fun m _ j hj => H.I'.nodes m j hj) (fun m _ => H.I'.uniq m) (fun j hj => ?_) (by omega)) ?_
    · obtain ⟨m', h1, h2, _⟩ := H.I.places p j hj
      exact ⟨m', h1, h2⟩
    · rintro e w2 ⟨⟨t, rfl, hpost⟩, hrow, hnest, hk⟩
      refine ⟨t, rfl, ⟨t, rfl, ?_⟩, hrow, ?_, Keep.after_below hb hk⟩
      · rcases hpost with ⟨h1, j, hj, hT⟩ | ⟨h1, h2⟩
        · exact Or.inl ⟨h1, trip_parts H hj hat.1 hT⟩
        · exact Or.inr ⟨h1, agree_push H A h2⟩
      · rw [hos]
        exact hnest

/-- the step's place is there: what the scan of its deliveries, and the push, make of it -/
theorem told_again {n i nx p m fs : Nat} {ds : List (List (Int × Int))} {f g : Nat → Nat} (I : Inv n i nx ds (ordAt f g n i)) (hp : p < n) (hf : f i = p) (hg : plOf g i = m) (hd : DelAt ds m p fs) : Told n i nx p m fs ds (ordAt f g n i) (ordAt f g n (i + 1)) := by
  left
  have hs := I.seqs m fs hd.1
  refine ⟨I.again, ?_, hd, by omega⟩
  obtain ⟨j, hj, e⟩ := I.there p m fs hp hd
  show ordStep (ordAt f g n i) (f i) (plOf g i) = _
  unfold ordStep
  rw [hf, hg, if_pos (mem_ix.2 ⟨j, hj, e⟩)]
theorem told_new {n i nx p m : Nat} {ds : List (List (Int × Int))} {f g : Nat → Nat} (I : Inv n i nx ds (ordAt f g n i)) (hp : p < n) (hm : m < nx) (hf : f i = p) (hg : plOf g i = m) (hd : ∀ j, ¬ DelAt ds m p j) : Told n i nx p m (lenOf ds m) (ds.set m (rowOf ds m ++ [((p : Int), (i : Int) + 2)])) (ordAt f g n i) (ordAt f g n (i + 1)) := by
  right
  have e : ordAt f g n (i + 1) = (ordAt f g n i).set p (rowOf (ordAt f g n i) p ++ [(m : Int)]) := by
    show ordStep (ordAt f g n i) (f i) (plOf g i) = _
    unfold ordStep
    rw [hf, hg, if_neg]
    intro h
    obtain ⟨j, hj, e⟩ := mem_ix.1 h
    obtain ⟨m', e', _, q, hq⟩ := I.places p j hj
    have : m' = m := by rw [e] at e'; omega
    subst this
    exact hd q hq
  refine ⟨ds, ?_, rfl, e⟩
  rw [e]
  exact push_mk I hm hp hd
theorem ED_push (l : List (Int × Int)) (d : Int × Int) : ED (l ++ [d]) = ED l ++ [.int .i64 d.1, .int .i64 d.2] := by simp [ED, List.flatMap_append]
/-- 'dels[m] = append(dels[m], x)' -/
theorem push_del {S : Nat → Prop} {B M c db m k ck c' : Nat} {ak a' : Option Addr} {ds : List (List (Int × Int))} {V : Nat → Value} {x : Int × Int} {w wa w' : World} (N : Nest ED 43 45 2 B wa (.slice (some ⟨db, 0, none⟩) M c) ds V) (hon : ds.length = M) (hm : m < M) (hk : lenOf ds m = k)
    (hV : V m = .slice ak k ck) (h1 : w'.ownsRow B 45 2 (.slice a' (k + 1) c') (k + 1) (ED (rowOf ds m) ++ [.int .i64 x.1, .int .i64 x.2])) (hg : wa.grownBy w' (Value.slice ak k ck).ownBlock)
    (hat : (Value.slice a' (k + 1) c').ownBlock = (Value.slice ak k ck).ownBlock ∨ ∃ g, (Value.slice a' (k + 1) c').ownBlock = some g ∧ wa.heap.size ≤ g)
    (K : Keep S w wa) (hSo : S db ∨ w.heap.size ≤ db) (hSi : ∀ g, (V m).ownBlock = some g → S g ∨ w.heap.size ≤ g) :
    (∃ V', Nest ED 43 45 2 B (w'.setCell ⟨db, m, none⟩ (.slice a' (k + 1) c')) (.slice (some ⟨db, 0, none⟩) M c) (ds.set m (rowOf ds m ++ [x])) V') ∧ Keep S w (w'.setCell ⟨db, m, none⟩ (.slice a' (k + 1) c')) := by
  subst hon
  refine ⟨⟨_, Nest.pushed N (by decide) hm (x := x) ?_ (by rw [hV]; exact hg) (by rw [hV]; exact hat)⟩, (K.grown hg (by rw [← hV]; exact hSi)).setCell hSo _⟩
  have e1 : ED (ds[m]?.getD [] ++ [x]) = ED (rowOf ds m) ++ [.int .i64 x.1, .int .i64 x.2] := ED_push _ _
  rw [e1]
  have e : (ds[m]?.getD []).length + 1 = k + 1 := by rw [← hk]; rfl
  rw [e]
  exact h1
end Go.Proofs.Qxb6616309aFmt
