/-
  THE PLAIN LAW: with no Go in sight: the line's delivery trips 'fails' just where the orders part.
-/
import Derived.Test.Qxb6616309aFmtOrders
namespace Go.Proofs.Qxb6616309aFmt

/-- node q is among the deliveries of message m, at place p -/
def DelAt (ds : List (List (Int × Int))) (m q p : Nat) : Prop := p < lenOf ds m ∧ nd (rowOf ds m) p = (q : Int)

/-- the orders and the deliveries tell one story, behind k steps -/
structure Inv (n k nx : Nat) (ds : List (List (Int × Int))) (os : List (List Int)) : Prop where
  dlen : ds.length = nx
  olen : os.length = n
  nodes : ∀ m p, p < lenOf ds m → ∃ q : Nat, nd (rowOf ds m) p = (q : Int) ∧ q < n
  uniq : ∀ m i j, i < lenOf ds m → j < lenOf ds m → nd (rowOf ds m) i = nd (rowOf ds m) j → i = j
  seqs : ∀ m p, p < lenOf ds m → sq (rowOf ds m) p < (k : Int) + 2
  places : ∀ q i, i < lenOf os q → ∃ m : Nat, ix (rowOf os q) i = (m : Int) ∧ m < nx ∧ ∃ p, DelAt ds m q p
  there : ∀ q m p, q < n → DelAt ds m q p → ∃ i, i < lenOf os q ∧ ix (rowOf os q) i = (m : Int)
  rise : ∀ q i j (m m' p p' : Nat), i < j → j < lenOf os q → ix (rowOf os q) i = (m : Int) → ix (rowOf os q) j = (m' : Int) → DelAt ds m q p → DelAt ds m' q p' → sq (rowOf ds m) p < sq (rowOf ds m') p'
  olens : ∀ q, lenOf os q ≤ k
  dlens : ∀ m, lenOf ds m ≤ k

/-- any two nodes have the ids that they share in one order -/
def AgreeP (n : Nat) (os : List (List Int)) : Prop :=
  ∀ p q, p < q → q < n → ∀ i j a b, i < j → j < lenOf os p → a < lenOf os q → b < lenOf os q → ix (rowOf os q) a = ix (rowOf os p) i → ix (rowOf os q) b = ix (rowOf os p) j → a ≤ b

theorem Inv.start (n : Nat) : Inv n 0 0 [] (List.replicate n []) := by
  have h0 : ∀ m, lenOf ([] : List (List (Int × Int))) m = 0 := fun m => by simp [lenOf, rowOf]
  have h1 : ∀ q, lenOf (List.replicate n ([] : List Int)) q = 0 := fun q => by
    unfold lenOf rowOf
    by_cases h : q < n <;> simp [h]
  refine ⟨rfl, by simp, fun m p h => ?_, fun m i j h => ?_, fun m p h => ?_, fun q i h => ?_, fun q m p _ h => ?_, fun q i j m m' p p' _ h => ?_, fun q => ?_, fun m => ?_⟩
  · rw [h0] at h; omega
  · rw [h0] at h; omega
  · rw [h0] at h; omega
  · rw [h1] at h; omega
  · have := h.1; rw [h0] at this; omega
  · rw [h1] at h; omega
  · rw [h1]; omega
  · rw [h0]; omega

/-- two nodes' orders part: the seqs tell it -/
theorem agree_seq {n k nx : Nat} {ds : List (List (Int × Int))} {os : List (List Int)} (I : Inv n k nx ds os) (A : AgreeP n os) {p q : Nat} (hp : p < n) (hq : q < n) (hpq : p ≠ q) {x y : Nat} {px py qx qy : Nat}
    (h1 : DelAt ds x p px) (h2 : DelAt ds y p py) (h3 : DelAt ds x q qx) (h4 : DelAt ds y q qy) (hlt : sq (rowOf ds x) px < sq (rowOf ds y) py) : sq (rowOf ds x) qx < sq (rowOf ds y) qy := by
  obtain ⟨i, hi, ei⟩ := I.there p x px hp h1
  obtain ⟨j, hj, ej⟩ := I.there p y py hp h2
  obtain ⟨a, ha, ea⟩ := I.there q x qx hq h3
  obtain ⟨b, hb, eb⟩ := I.there q y qy hq h4
  have hij : i < j := by
    rcases Nat.lt_trichotomy i j with h | h | h
    · exact h
    · subst h
      have e : (x : Int) = (y : Int) := ei.symm.trans ej
      obtain rfl : x = y := by omega
      have := I.uniq x px py h1.1 h2.1 (h1.2.trans h2.2.symm)
      subst this
      omega
    · have := I.rise p j i y x py px h hi ej ei h2 h1
      omega
  have hab : a ≠ b := by
    rintro rfl
    have e : (x : Int) = (y : Int) := ea.symm.trans eb
    obtain rfl : x = y := by omega
    have := I.uniq x px py h1.1 h2.1 (h1.2.trans h2.2.symm)
    subst this
    omega
  have hle : a < b := by
    rcases Nat.lt_or_gt_of_ne hpq with h | h
    · have := A p q h hq i j a b hij hj ha hb (ea.trans ei.symm) (eb.trans ej.symm)
      omega
    · rcases Nat.lt_or_gt_of_ne hab with h' | h'
      · exact h'
      · have := A q p h hp b a j i h' ha hj hi (ej.trans eb.symm) (ei.trans ea.symm)
        omega
  exact I.rise q a b x y qx qy hle hb ea eb h3 h4

/-- the last index below k at which P holds -/
theorem last_below (P : Nat → Prop) (k : Nat) (h : ∃ i, i < k ∧ P i) : ∃ i, i < k ∧ P i ∧ ∀ j, i < j → j < k → ¬ P j := by
  induction k with
  | zero => obtain ⟨i, hi, _⟩ := h; omega
  | succ k ih =>
    rcases Classical.em (P k) with hk | hk
    · exact ⟨k, by omega, hk, fun j h1 h2 => by omega⟩
    · obtain ⟨i, hi, hp⟩ := h
      have hne : i ≠ k := fun e => hk (e ▸ hp)
      obtain ⟨i', h1, h2, h3⟩ := ih ⟨i, by omega, hp⟩
      refine ⟨i', by omega, h2, fun j h4 h5 => ?_⟩
      by_cases e : j = k
      · subst e; exact hk
      · exact h3 j h4 (by omega)

/-- what one new delivery, by node p of the message at place dl, turns -/
structure Push (n k nx nx' p dl : Nat) (ds ds' : List (List (Int × Int))) (os os' : List (List Int)) : Prop where
  I : Inv n k nx ds os
  I' : Inv n (k + 1) nx' ds' os'
  hp : p < n
  new : DelAt ds' dl p (lenOf ds dl)
  seq : sq (rowOf ds' dl) (lenOf ds dl) = (k : Int) + 2
  old : ∀ m q j, DelAt ds m q j → DelAt ds' m q j ∧ sq (rowOf ds' m) j = sq (rowOf ds m) j
  only : ∀ m q j, DelAt ds' m q j → DelAt ds m q j ∨ (m = dl ∧ q = p ∧ j = lenOf ds dl)
  fresh : ∀ j, ¬ DelAt ds dl p j
  rows : ∀ q, q ≠ p → rowOf os' q = rowOf os q
  rowp : rowOf os' p = rowOf os p ++ [(dl : Int)]

theorem parts_trip {n k nx nx' p dl : Nat} {ds ds' : List (List (Int × Int))} {os os' : List (List Int)} (H : Push n k nx nx' p dl ds ds' os os') (A : AgreeP n os) {q j x px qx : Nat} (hq : q < n) (hpq : q ≠ p) (_hj : j < lenOf ds dl)
    (h1 : DelAt ds' dl q j) (h2 : DelAt ds x p px) (h3 : DelAt ds x q qx) (hlt : sq (rowOf ds' dl) j < sq (rowOf ds x) qx) : Trip ds' (rowOf os p) (lenOf os p) dl j := by
  obtain ⟨ix0, hi0, e0⟩ := H.I.there p x px H.hp h2
  obtain ⟨i, hi, ⟨m, pm, hm, hdm⟩, hlast⟩ := last_below (fun i => ∃ m pm : Nat, ix (rowOf os p) i = (m : Int) ∧ DelAt ds m q pm) (lenOf os p) ⟨ix0, hi0, x, qx, e0, h3⟩
  obtain ⟨hd', hs'⟩ := H.old m q pm hdm
  refine ⟨i, pm, m, hi, hm, hd'.1, hd'.2.trans h1.2.symm, ?_, fun i' hi1 hi2 t ht e => ?_⟩
  · rw [hs']
    rcases Nat.lt_trichotomy ix0 i with h | h | h
    · obtain ⟨m2, e2, _, p2, hp2⟩ := H.I.places p i hi
      have em : m2 = m := by rw [hm] at e2; omega
      subst em
      have l1 := H.I.rise p ix0 i x m2 px p2 h hi e0 hm h2 hp2
      have l2 := agree_seq H.I A H.hp hq (Ne.symm hpq) h2 hp2 h3 hdm l1
      omega
    · subst h
      have em : x = m := by rw [hm] at e0; omega
      subst em
      have := H.I.uniq x pm qx hdm.1 h3.1 (hdm.2.trans h3.2.symm)
      subst this
      exact hlt
    · exact absurd ⟨x, qx, e0, h3⟩ (hlast ix0 h hi0)
  · obtain ⟨m2, e2, hm2, p2, hp2⟩ := H.I.places p i' hi2
    rw [e2, Int.toNat_natCast] at ht e
    rw [h1.2] at e
    rcases H.only m2 q t ⟨ht, e⟩ with h | ⟨_, h, _⟩
    · exact hlast i' hi1 hi2 ⟨m2, t, e2, h⟩
    · exact hpq h

theorem trip_parts {n k nx nx' p dl : Nat} {ds ds' : List (List (Int × Int))} {os os' : List (List Int)} (H : Push n k nx nx' p dl ds ds' os os') {j : Nat} (hj : j < lenOf ds dl) (hl : lenOf ds dl < lenOf ds' dl) (T : Trip ds' (rowOf os p) (lenOf os p) dl j) : ¬ AgreeP n os' := by
  intro A
  obtain ⟨i, pm, m, hi, hm, hpl, hnd, hlt, _⟩ := T
  obtain ⟨q, hq, hqn⟩ := H.I'.nodes dl j (by omega)
  have hqp : q ≠ p := by
    rintro rfl
    have := H.I'.uniq dl j (lenOf ds dl) (by omega) H.new.1 (hq.trans H.new.2.symm)
    omega
  obtain ⟨m2, e2, _, p2, hp2⟩ := H.I.places p i hi
  have em : m2 = m := by rw [hm] at e2; omega
  subst em
  obtain ⟨hd2, hs2⟩ := H.old m2 p p2 hp2
  have l1 : sq (rowOf ds' m2) p2 < sq (rowOf ds' dl) (lenOf ds dl) := by
    rw [hs2, H.seq]
    exact H.I.seqs m2 p2 hp2.1
  have l2 := agree_seq H.I' A H.hp hqn (Ne.symm hqp) hd2 H.new ⟨hpl, hnd.trans hq⟩ ⟨by omega, hq⟩ l1
  omega

theorem seq_of {n k nx : Nat} {ds : List (List (Int × Int))} {os : List (List Int)} (I : Inv n k nx ds os) {q i j : Nat} (hij : i < j) (hj : j < lenOf os q) : ∃ x y px py : Nat, ix (rowOf os q) i = (x : Int) ∧ ix (rowOf os q) j = (y : Int) ∧ DelAt ds x q px ∧ DelAt ds y q py ∧ sq (rowOf ds x) px < sq (rowOf ds y) py := by
  obtain ⟨x, ex, _, px, hx⟩ := I.places q i (by omega)
  obtain ⟨y, ey, _, py, hy⟩ := I.places q j hj
  exact ⟨x, y, px, py, ex, ey, hx, hy, I.rise q i j x y px py hij hj ex ey hx hy⟩

theorem agree_push {n k nx nx' p dl : Nat} {ds ds' : List (List (Int × Int))} {os os' : List (List Int)} (H : Push n k nx nx' p dl ds ds' os os') (A : AgreeP n os) (hT : ∀ j, j < lenOf ds dl → ¬ Trip ds' (rowOf os p) (lenOf os p) dl j) : AgreeP n os' := by
  intro p1 q1 hpq hq1 i j a b hij hj ha hb ea eb
  rcases Nat.lt_or_ge b a with hba | hba
  rotate_left
  · exact hba
  exfalso
  obtain ⟨x, y, px, py, ex, ey, hx, hy, l1⟩ := seq_of H.I' hij hj
  obtain ⟨y', x', qy, qx, ey', ex', hqy, hqx, l2⟩ := seq_of H.I' hba ha
  have e1 : x' = x := by rw [ea, ex] at ex'; omega
  have e2 : y' = y := by rw [eb, ey] at ey'; omega
  subst e1 e2
  have sold : ∀ {m q j}, DelAt ds m q j → sq (rowOf ds' m) j = sq (rowOf ds m) j := fun h => (H.old _ _ _ h).2
  have snew : ∀ {m q j}, DelAt ds m q j → sq (rowOf ds' m) j < (k : Int) + 2 := fun h => by rw [sold h]; exact H.I.seqs _ _ h.1
  have hp1 : p1 < n := by omega
  rcases H.only _ _ _ hx with ox | ⟨rfl, rfl, rfl⟩
  · rcases H.only _ _ _ hy with oy | ⟨rfl, rfl, rfl⟩
    · rcases H.only _ _ _ hqx with oqx | ⟨rfl, rfl, rfl⟩
      · rcases H.only _ _ _ hqy with oqy | ⟨rfl, rfl, rfl⟩
        · rw [sold ox, sold oy] at l1
          rw [sold oqx, sold oqy] at l2
          have := agree_seq H.I A hp1 hq1 (by omega) ox oy oqx oqy l1
          omega
        · rw [H.seq] at l2
          have := snew oqx
          omega
      · -- x is new at q1 = p: p1 has x before y, p has y before x
        rcases H.only _ _ _ hqy with oqy | ⟨rfl, _, rfl⟩
        · refine hT px ?_ (parts_trip H A hp1 (by omega) ?_ hx oqy oy (by rw [← sold oy]; exact l1)) <;> exact ox.1
        · omega
    · -- y is new at p1 = p
      rcases H.only _ _ _ hqy with oqy | ⟨_, h, _⟩
      · rcases H.only _ _ _ hqx with oqx | ⟨_, h, _⟩
        · refine hT qy ?_ (parts_trip H A hq1 (by omega) ?_ hqy ox oqx (by rw [← sold oqx]; exact l2)) <;> exact oqy.1
        · omega
      · omega
  · rcases H.only _ _ _ hy with oy | ⟨rfl, _, rfl⟩
    · rw [H.seq] at l1
      have := snew oy
      omega
    · omega

theorem rowOf_grow {α : Type} (ds : List (List α)) (m : Nat) : rowOf (ds ++ [[]]) m = rowOf ds m := by
  unfold rowOf
  rcases Nat.lt_trichotomy m ds.length with h | h | h
  · rw [List.getElem?_append_left h]
  · subst h; simp
  · rw [List.getElem?_append_right (by omega)]
    have : 1 ≤ m - ds.length := by omega
    rw [List.getElem?_eq_none (by simp; omega), List.getElem?_eq_none (by omega)]
theorem rowOf_put {α : Type} (os : List (List α)) (q p : Nat) (r : List α) (hq : q < os.length) : rowOf (os.set q r) p = if p = q then r else rowOf os p := by
  unfold rowOf
  by_cases h : p = q
  · subst h; rw [if_pos rfl]; simp [hq]
  · rw [if_neg h, List.getElem?_set_ne (fun e => h e.symm)]

theorem Inv.grow {n k nx : Nat} {ds : List (List (Int × Int))} {os : List (List Int)} (I : Inv n k nx ds os) : Inv n k (nx + 1) (ds ++ [[]]) os := by
  have e : ∀ m, rowOf (ds ++ [[]]) m = rowOf ds m := rowOf_grow ds
  have e2 : ∀ m, lenOf (ds ++ [[]]) m = lenOf ds m := fun m => by unfold lenOf; rw [e]
  have e3 : ∀ m q p, DelAt (ds ++ [[]]) m q p ↔ DelAt ds m q p := fun m q p => by unfold DelAt; rw [e, e2]
  refine ⟨by rw [List.length_append, I.dlen]; rfl, I.olen, fun m p h => ?_, fun m i j h1 h2 h3 => ?_, fun m p h => ?_, fun q i h => ?_, fun q m p hq h => ?_, fun q i j m m' p p' h1 h2 h3 h4 h5 h6 => ?_, I.olens, fun m => by rw [e2]; exact I.dlens m⟩
  · rw [e2] at h; rw [e]; exact I.nodes m p h
  · rw [e2] at h1 h2; rw [e] at h3; exact I.uniq m i j h1 h2 h3
  · rw [e2] at h; rw [e]; exact I.seqs m p h
  · obtain ⟨m, h1, h2, p, h3⟩ := I.places q i h
    exact ⟨m, h1, by omega, p, (e3 m q p).2 h3⟩
  · exact I.there q m p hq ((e3 m q p).1 h)
  · rw [e, e]
    exact I.rise q i j m m' p p' h1 h2 h3 h4 ((e3 _ _ _).1 h5) ((e3 _ _ _).1 h6)
theorem Inv.again {n k nx : Nat} {ds : List (List (Int × Int))} {os : List (List Int)} (I : Inv n k nx ds os) : Inv n (k + 1) nx ds os :=
  ⟨I.dlen, I.olen, I.nodes, I.uniq, fun m p h => by have := I.seqs m p h; omega, I.places, I.there, I.rise, fun q => by have := I.olens q; omega, fun m => by have := I.dlens m; omega⟩

theorem nd_app (ds : List (Int × Int)) (d : Int × Int) (i : Nat) (h : i < ds.length) : nd (ds ++ [d]) i = nd ds i ∧ sq (ds ++ [d]) i = sq ds i := by
  unfold nd sq
  rw [List.getElem?_append_left h]
  exact ⟨rfl, rfl⟩
theorem nd_new (ds : List (Int × Int)) (d : Int × Int) : nd (ds ++ [d]) ds.length = d.1 ∧ sq (ds ++ [d]) ds.length = d.2 := by
  unfold nd sq
  simp
theorem ix_app (zs : List Int) (x : Int) (i : Nat) (h : i < zs.length) : ix (zs ++ [x]) i = ix zs i := by
  unfold ix
  rw [List.getElem?_append_left h]
theorem ix_new (zs : List Int) (x : Int) : ix (zs ++ [x]) zs.length = x := by unfold ix; simp

theorem push_mk {n k nx p dl : Nat} {ds : List (List (Int × Int))} {os : List (List Int)} (I : Inv n k nx ds os) (hdl : dl < nx) (hp : p < n) (fresh : ∀ j, ¬ DelAt ds dl p j) :
    Push n k nx nx p dl ds (ds.set dl (rowOf ds dl ++ [((p : Int), (k : Int) + 2)])) os (os.set p (rowOf os p ++ [(dl : Int)])) := by
  have hd : dl < ds.length := by rw [I.dlen]; exact hdl
  have ho : p < os.length := by rw [I.olen]; exact hp
  have rd : ∀ m, rowOf (ds.set dl (rowOf ds dl ++ [((p : Int), (k : Int) + 2)])) m = if m = dl then rowOf ds dl ++ [((p : Int), (k : Int) + 2)] else rowOf ds m := fun m => rowOf_put ds dl m _ hd
  have ro : ∀ q, rowOf (os.set p (rowOf os p ++ [(dl : Int)])) q = if q = p then rowOf os p ++ [(dl : Int)] else rowOf os q := fun q => rowOf_put os p q _ ho
  generalize hds' : ds.set dl (rowOf ds dl ++ [((p : Int), (k : Int) + 2)]) = ds' at rd
  generalize hos' : os.set p (rowOf os p ++ [(dl : Int)]) = os' at ro
  have rdl : rowOf ds' dl = rowOf ds dl ++ [((p : Int), (k : Int) + 2)] := by rw [rd, if_pos rfl]
  have rdo : ∀ m, m ≠ dl → rowOf ds' m = rowOf ds m := fun m h => by rw [rd, if_neg h]
  have rop : rowOf os' p = rowOf os p ++ [(dl : Int)] := by rw [ro, if_pos rfl]
  have roo : ∀ q, q ≠ p → rowOf os' q = rowOf os q := fun q h => by rw [ro, if_neg h]
  have ldl : lenOf ds' dl = lenOf ds dl + 1 := by unfold lenOf; rw [rdl]; simp
  have lop : lenOf os' p = lenOf os p + 1 := by unfold lenOf; rw [rop]; simp
  have ldo : ∀ m, m ≠ dl → lenOf ds' m = lenOf ds m := fun m h => by unfold lenOf; rw [rdo m h]
  have loo : ∀ q, q ≠ p → lenOf os' q = lenOf os q := fun q h => by unfold lenOf; rw [roo q h]
  have new : DelAt ds' dl p (lenOf ds dl) ∧ sq (rowOf ds' dl) (lenOf ds dl) = (k : Int) + 2 := by
    have := nd_new (rowOf ds dl) ((p : Int), (k : Int) + 2)
    refine ⟨⟨by omega, ?_⟩, ?_⟩
    · rw [rdl]; exact this.1
    · rw [rdl]; exact this.2
  have cells : ∀ m j, j < lenOf ds m → nd (rowOf ds' m) j = nd (rowOf ds m) j ∧ sq (rowOf ds' m) j = sq (rowOf ds m) j := by
    intro m j hj
    by_cases h : m = dl
    · subst h; rw [rdl]; exact nd_app _ _ j hj
    · rw [rdo m h]; exact ⟨rfl, rfl⟩
  have lens : ∀ m, lenOf ds m ≤ lenOf ds' m := by
    intro m
    by_cases h : m = dl
    · subst h; omega
    · rw [ldo m h]; exact Nat.le_refl _
  have old : ∀ m q j, DelAt ds m q j → DelAt ds' m q j ∧ sq (rowOf ds' m) j = sq (rowOf ds m) j := by
    intro m q j h
    have := cells m j h.1
    exact ⟨⟨Nat.lt_of_lt_of_le h.1 (lens m), this.1.trans h.2⟩, this.2⟩
  have only : ∀ m q j, DelAt ds' m q j → DelAt ds m q j ∨ (m = dl ∧ q = p ∧ j = lenOf ds dl) := by
    intro m q j h
    by_cases h1 : j < lenOf ds m
    · exact Or.inl ⟨h1, (cells m j h1).1.symm.trans h.2⟩
    · have hm : m = dl := by
        apply Classical.byContradiction
        intro hne
        have := h.1
        rw [ldo m hne] at this
        omega
      subst hm
      have hj : j = lenOf ds m := by have := h.1; omega
      subst hj
      right
      refine ⟨rfl, ?_, rfl⟩
      have := h.2.symm.trans new.1.2
      omega
  have cl : ∀ m j, j < lenOf ds' m → j < lenOf ds m ∨ (m = dl ∧ j = lenOf ds dl) := by
    intro m j h
    by_cases h1 : j < lenOf ds m
    · exact Or.inl h1
    · right
      by_cases hm : m = dl
      · subst hm; exact ⟨rfl, by omega⟩
      · rw [ldo m hm] at h; omega
  have notIn : ∀ i, i < lenOf os p → ix (rowOf os p) i ≠ (dl : Int) := by
    intro i hi e
    obtain ⟨m, e2, _, a, ha⟩ := I.places p i hi
    have : m = dl := by rw [e] at e2; omega
    subst this
    exact fresh a ha
  refine ⟨I, ?_, hp, new.1, new.2, old, only, fresh, roo, rop⟩
  refine ⟨by rw [← hds', List.length_set]; exact I.dlen, by rw [← hos', List.length_set]; exact I.olen, fun m j h => ?_, fun m i j h1 h2 h3 => ?_, fun m j h => ?_, fun q i h => ?_, fun q m j hq h => ?_, fun q i j m m' a b hij hj ei ej da db => ?_, fun q => ?_, fun m => ?_⟩
  · rcases cl m j h with h1 | ⟨rfl, rfl⟩
    · rw [(cells m j h1).1]; exact I.nodes m j h1
    · exact ⟨p, new.1.2, hp⟩
  · rcases cl m i h1 with o1 | ⟨rfl, rfl⟩
    · rcases cl m j h2 with o2 | ⟨rfl, rfl⟩
      · rw [(cells m i o1).1, (cells m j o2).1] at h3
        exact I.uniq m i j o1 o2 h3
      · rw [(cells m i o1).1, new.1.2] at h3
        exact absurd ⟨o1, h3⟩ (fresh i)
    · rcases cl m j h2 with o2 | ⟨_, rfl⟩
      · rw [(cells m j o2).1, new.1.2] at h3
        exact absurd ⟨o2, h3.symm⟩ (fresh j)
      · rfl
  · rcases cl m j h with h1 | ⟨rfl, rfl⟩
    · rw [(cells m j h1).2]
      have := I.seqs m j h1
      omega
    · rw [new.2]; omega
  · by_cases hq : q = p
    · subst hq
      rw [rop]
      by_cases hi : i < lenOf os q
      · rw [ix_app _ _ _ hi]
        obtain ⟨m, h1, h2, a, h3⟩ := I.places q i hi
        exact ⟨m, h1, h2, a, (old _ _ _ h3).1⟩
      · have hi : i = (rowOf os q).length := by have : lenOf os q = (rowOf os q).length := rfl; omega
        subst hi
        rw [ix_new]
        exact ⟨dl, rfl, hdl, _, new.1⟩
    · rw [loo q hq] at h
      rw [roo q hq]
      obtain ⟨m, h1, h2, a, h3⟩ := I.places q i h
      exact ⟨m, h1, h2, a, (old _ _ _ h3).1⟩
  · rcases only m q j h with h1 | ⟨rfl, rfl, rfl⟩
    · obtain ⟨i, hi, e⟩ := I.there q m j hq h1
      by_cases hqp : q = p
      · subst hqp
        exact ⟨i, by omega, by rw [rop, ix_app _ _ _ hi]; exact e⟩
      · exact ⟨i, by rw [loo q hqp]; exact hi, by rw [roo q hqp]; exact e⟩
    · exact ⟨lenOf os q, by omega, by rw [rop]; exact ix_new _ _⟩
  · by_cases hq : q = p
    · subst hq
      rw [rop] at ei ej
      have hi : i < lenOf os q := by omega
      rw [ix_app _ _ _ hi] at ei
      rcases only m q a da with oa | ⟨rfl, _, _⟩
      · by_cases hj2 : j < lenOf os q
        · rw [ix_app _ _ _ hj2] at ej
          rcases only m' q b db with ob | ⟨rfl, _, _⟩
          · rw [(old _ _ _ oa).2, (old _ _ _ ob).2]
            exact I.rise q i j m m' a b hij hj2 ei ej oa ob
          · exact absurd ej (notIn j hj2)
        · have hj3 : j = (rowOf os q).length := by have : lenOf os q = (rowOf os q).length := rfl; omega
          subst hj3
          rw [ix_new] at ej
          have em : m' = dl := by omega
          subst em
          rcases only m' q b db with ob | ⟨_, _, rfl⟩
          · exact absurd ob (fresh b)
          · rw [(old _ _ _ oa).2, new.2]
            exact I.seqs m a oa.1
      · exact absurd ei (notIn i hi)
    · rw [loo q hq] at hj
      rw [roo q hq] at ei ej
      rcases only m q a da with oa | ⟨_, h, _⟩
      · rcases only m' q b db with ob | ⟨_, h, _⟩
        · rw [(old _ _ _ oa).2, (old _ _ _ ob).2]
          exact I.rise q i j m m' a b hij hj ei ej oa ob
        · exact absurd h hq
      · exact absurd h hq
  · by_cases hq : q = p
    · subst hq; have := I.olens q; omega
    · rw [loo q hq]; have := I.olens q; omega
  · by_cases hm : m = dl
    · subst hm; have := I.dlens m; omega
    · rw [ldo m hm]; have := I.dlens m; omega
end Go.Proofs.Qxb6616309aFmt
