/-
  THE WALK of 'b1Index'.
-/
import Derived.Test.Qxb6616309aFmtMsgs
import Derived.Test.Qxb6616309aFmtSort
import Derived.Maps.Own
import Derived.Maps.Views
namespace Go.Proofs.Qxb6616309aFmt
open Go.RowKit Go.Maps

/-- how an element of the index reads: where it lies -/
def codeV : Value → Option (DataW Unit × List MemPlace)
  | .slice (some a) n c => some (.agg [.lit (.int .i64 a.block), .lit (.int .i64 a.off), .lit (.int .i64 n), .lit (.int .i64 c), .lit (.bool a.spot.isNone)], [])
  | .slice none _ _ => some (.nil, [])
  | _ => none
def codeD (g n : Nat) : DataW Unit := .agg [.lit (.int .i64 g), .lit (.int .i64 0), .lit (.int .i64 n), .lit (.int .i64 n), .lit (.bool true)]
theorem codeV_inv {v : Value} {g n : Nat} {ps : List MemPlace} (h : codeV v = some (codeD g n, ps)) : v = .slice (some ⟨g, 0, none⟩) n n := by
  unfold codeV at h
  split at h
  · rename_i a n' c'
    obtain ⟨b, o, i⟩ := a
    simp [codeD] at h
    obtain ⟨⟨h1, h2, h3, h4, h5⟩, _⟩ := h
    cases i with
    | none =>
      obtain rfl : b = g := by omega
      obtain rfl : o = 0 := by omega
      obtain rfl : n' = n := by omega
      obtain rfl : c' = n' := by omega
      rfl
    | some x => simp at h5
  · simp [codeD] at h
  · cases h

theorem Tryf.keyed : Keyed Tryf.prog 3 := int_keyed Tryf.underlying3
theorem Tryf.zero67 (w : World) : (zeroValue 67).run Tryf.prog w = .ok (.slice none 0 0) w := by kernel_rfl
theorem make67 (n : Nat) (hn : n ≤ 1048576) (w : World) : (Instr.makeSlice 67 (.int .i64 (n : Int)) (.int .i64 (n : Int))).run Tryf.prog w = .ok (.slice (some ⟨w.heap.size, 0, none⟩) n n) (w.alloc (.cells (madeCells #[.int .i32 0] n) 21)) :=
  run_make_row' 67 21 (.int .i32 0) 4 Tryf.underlying67 z21 rfl .i64 .i64 n (by omega) (by omega) w

def idTo (j k : Nat) : Value := .int .i32 (if k < j then (k : Int) else 0)
theorem idTo_step (j k : Nat) : (if k = j then Value.int .i32 (j : Int) else idTo j k) = idTo (j + 1) k := by
  unfold idTo
  by_cases h : k = j
  · subst h; rw [if_pos rfl, if_pos (by omega)]
  · rw [if_neg h]
    by_cases h1 : k < j
    · rw [if_pos h1, if_pos (by omega)]
    · rw [if_neg h1, if_neg (by omega)]
theorem perm_id (n : Nat) : Perm n (fun k => k) := ⟨fun _ h => h, fun i h => ⟨i, h, rfl⟩⟩

/-- the index so far: the map in block ib, for the first m messages -/
structure IdxTo (w : World) (ib m : Nat) (dels : List (List (Int × Int))) (I : Nat → Nat) (ps : Nat → Nat → Nat) : Prop where
  map : ∃ D : DataW Unit, w.ownsMap Tryf.prog 3 codeV ib m D ∧ IsMap D ∧ ∀ i, i < m → 8 < lenOf dels i → D.atKey (.int .i64 (i : Int)) .nil = codeD (I i) (lenOf dels i)
  rows : ∀ i, i < m → 8 < lenOf dels i → ib < I i ∧ w.rowIs (I i) 21 (lenOf dels i) (fun k => .int .i32 (ps i k : Nat)) ∧ Perm (lenOf dels i) (ps i) ∧ AscTo (nodeP (rowOf dels i) (ps i)) (lenOf dels i)

theorem key_of (m : Nat) (hm : m ≤ 65536) : keyOf Tryf.prog 3 (.int .i64 (m : Int)) = some (.int .i64 (m : Int)) := keyOf_int_mk Tryf.underlying3 (WalkArith.wf_i64 (by omega))

theorem IdxTo.look {w : World} {ib m : Nat} {dels : List (List (Int × Int))} {I : Nat → Nat} {ps : Nat → Nat → Nat} (h : IdxTo w ib m dels I ps) {i : Nat} (hi : i < m) (h8 : 8 < lenOf dels i) (hs : i ≤ 65536) (w' : World) (e : w'.heap[ib]? = w.heap[ib]?) :
    (Instr.lookup 48 (.map (some ib)) (.int .i64 (i : Int)) false).run Tryf.prog w' = .ok (.slice (some ⟨I i, 0, none⟩) (lenOf dels i) (lenOf dels i)) w' := by
  obtain ⟨D, hown, _, hat⟩ := h.map
  have hown' : w'.ownsMap Tryf.prog 3 codeV ib m D := by
    obtain ⟨es, clock, hb, rest⟩ := hown
    exact ⟨es, clock, e.trans hb, rest⟩
  obtain ⟨v, ps', hr, hv⟩ := hown'.lookup Tryf.keyed Tryf.underlying48 (Tryf.zero67 w') (zd := .nil) (zp := []) rfl (key_of i hs)
  rw [hat i hi h8] at hv
  rw [codeV_inv hv] at hr
  exact hr

theorem IdxTo.keep {w w' : World} {ib m : Nat} {dels : List (List (Int × Int))} {I : Nat → Nat} {ps : Nat → Nat → Nat} (h : IdxTo w ib m dels I ps) (hb : Below w.heap.size w w') : IdxTo w' ib m dels I ps := by
  obtain ⟨⟨D, hown, hD, hat⟩, hr⟩ := h
  refine ⟨⟨D, ?_, hD, hat⟩, fun i hi h8 => ?_⟩
  · obtain ⟨es, clock, e, rest⟩ := hown
    exact ⟨es, clock, (hb.block ib (Array.getElem?_eq_some_iff.1 e).1).trans e, rest⟩
  · obtain ⟨h1, h2, h3⟩ := hr i hi h8
    exact ⟨h1, row_below h2 hb h2.lt, h3⟩
theorem IdxTo.skip {w : World} {ib m : Nat} {dels : List (List (Int × Int))} {I : Nat → Nat} {ps : Nat → Nat → Nat} (h : IdxTo w ib m dels I ps) (h8 : ¬ 8 < lenOf dels m) : IdxTo w ib (m + 1) dels I ps := by
  obtain ⟨⟨D, hown, hD, hat⟩, hr⟩ := h
  refine ⟨⟨D, hown.mono (by omega), hD, fun i hi h => ?_⟩, fun i hi h => ?_⟩
  · exact hat i (by rcases Nat.lt_succ_iff_lt_or_eq.1 hi with h' | h'; exact h'; subst h'; exact absurd h h8) h
  · exact hr i (by rcases Nat.lt_succ_iff_lt_or_eq.1 hi with h' | h'; exact h'; subst h'; exact absurd h h8) h
theorem IdxTo.add {w w' : World} {ib m pb : Nat} {dels : List (List (Int × Int))} {I : Nat → Nat} {ps : Nat → Nat → Nat} {p : Nat → Nat} {D : DataW Unit} (hD : IsMap D) (hat : ∀ i, i < m → 8 < lenOf dels i → D.atKey (.int .i64 (i : Int)) .nil = codeD (I i) (lenOf dels i))
    (hr : ∀ i, i < m → 8 < lenOf dels i → ib < I i ∧ w.rowIs (I i) 21 (lenOf dels i) (fun k => .int .i32 (ps i k : Nat)) ∧ Perm (lenOf dels i) (ps i) ∧ AscTo (nodeP (rowOf dels i) (ps i)) (lenOf dels i))
    (hown : w'.ownsMap Tryf.prog 3 codeV ib (m + 1) (D.put (.int .i64 (m : Int)) (codeD pb (lenOf dels m)))) (hg : w.grownBy w' (some ib)) (hib : ib < pb)
    (hrow : w.rowIs pb 21 (lenOf dels m) (fun k => .int .i32 (p k : Nat))) (hp : Perm (lenOf dels m) p) (ha : AscTo (nodeP (rowOf dels m) p) (lenOf dels m)) : IdxTo w' ib (m + 1) dels (upd I m pb) (upd ps m p) := by
  have far : ∀ {b t n : Nat} {f : Nat → Value}, ib < b → w.rowIs b t n f → w'.rowIs b t n f := fun hlt h => h.of_block (hg.block _ h.lt (by simp; omega))
  refine ⟨⟨_, hown, hD.put _ _, fun i hi h => ?_⟩, fun i hi h => ?_⟩
  · unfold upd
    by_cases e : i = m
    · subst e
      rw [if_pos rfl]
      exact atKey_put_same hD (k := .int .i64 (i : Int)) trivial _ _
    · rw [if_neg e, atKey_put_other (by simp; omega)]
      exact hat i (by omega) h
  · unfold upd
    by_cases e : i = m
    · subst e
      simp only [if_true]
      exact ⟨hib, far hib hrow, hp, ha⟩
    · simp only [if_neg e]
      obtain ⟨h1, h2, h3⟩ := hr i (by omega) h
      exact ⟨h1, far h1 h2, h3⟩

set_option maxRecDepth 100000 in
set_option maxHeartbeats 4000000 in
theorem index_any (B M c : Nat) (a : Option Addr) (dels : List (List (Int × Int))) (V : Nat → Value) (w : World) (N : Nest ED 43 45 2 B w (.slice a M c) dels V) (hM : dels.length = M) (hMs : M ≤ 65535) (hls : ∀ m, m < M → lenOf dels m ≤ 65536) :
    Calls Tryf.prog 12 #[.slice a M c] w fun e w' => ∃ I ps, e = .returned (.map (some w.heap.size)) ∧ IdxTo w' w.heap.size M dels I ps ∧ Below w.heap.size w w' := by
  have HN : Hid _ := N
  clear N
  have hmm := @run_makeMap Tryf.prog
  have HM : Hid _ := hM
  clear hM
  go_enter Tryf.func12, Tryf.ntmps12
  go_wp2
  clear hmm
  go_loopw [4] (fun vi wr => ∃ (m : Nat) (I : Nat → Nat) (ps : Nat → Nat → Nat), m ≤ M ∧ vi = .int .i64 m ∧ IdxTo wr w.heap.size m dels I ps ∧ Below w.heap.size w wr) (fun vi _ => M - (intOf vi).toNat)
  case atStart => exact ⟨0, fun _ => 0, fun _ _ => 0, by omega, rfl, ⟨⟨_, World.ownsMap_made _ _ _ _, isMap_empty, fun i hi => by omega⟩, fun i hi => by omega⟩, (Below.refl _ _).alloc (Nat.le_refl _) _⟩
  case round =>
    obtain ⟨m, I, ps, hm, rfl, hidx, hb⟩ := hrel
    obtain ⟨wo, rfl⟩ : ∃ x : World, x = wr := ⟨_, rfl⟩
    by_cases hmM : m < M
    · obtain ⟨g, ai, ci, rfl, hg, hgc, hin, _⟩ := nest_read (HN.out.below hb) HM.out hmM
      have hL := hls m hmM
      have HB : Hid (Below w.heap.size w wo) := hb
      have HX : Hid (IdxTo wo w.heap.size m dels I ps) := hidx
      have lw : w.heap.size < wo.heap.size := by
        obtain ⟨D, hown, _⟩ := hidx.map
        exact hown.lt
      clear hidx hb
      by_cases h8 : 8 < lenOf dels m
      · have hd8 : decide ((8 : Int) < (lenOf dels m : Int)) = true := decide_eq_true (by omega)
        have hmk := make67 (lenOf dels m) (by omega)
        have HIN : Hid (wo.ownsRow B 45 2 (.slice ai (lenOf dels m) ci) (lenOf dels m) (ED (rowOf dels m))) := hin
        clear hin
        go_wp2
        clear hmk
        go_loopw [6] (fun vj wr => ∃ j : Nat, j ≤ lenOf dels m ∧ vj = .int .i64 j ∧ wr.rowIs wo.heap.size 21 (lenOf dels m) (idTo j) ∧ Below wo.heap.size wo wr) (fun vj _ => lenOf dels m - (intOf vj).toNat)
        case atStart => exact ⟨0, by omega, rfl, (World.rowIs_made wo _ _ 21).congr (fun k _ => by unfold idTo; rw [if_neg (by omega)]), (Below.refl _ _).alloc (Nat.le_refl _) _⟩
        case round =>
          obtain ⟨j, hj, rfl, hjr, hbi⟩ := hrel
          obtain ⟨wi, rfl⟩ : ∃ x : World, x = wr := ⟨_, rfl⟩
          by_cases hjl : j < lenOf dels m
          · have cj := hjr.cell hjl
            have fj := hjr.frozen j
            go_wp2
            go_roundw
            case rel => exact ⟨j + 1, by omega, by go_num, (hjr.set j _).congr (fun k _ => idTo_step j k), hbi.setCell (Nat.le_refl _) _⟩
            case measure => simp [intOf]; omega
          · obtain rfl : j = lenOf dels m := by omega
            obtain ⟨gi, rfl, hgi, _⟩ := ed_cells HIN.out rfl (show 0 < lenOf dels m by omega)
            have hgc2 := (hbi.cell (World.block_lt_of_cell? _ _ hgc)).trans hgc
            have hdc : ∀ q, q < lenOf dels m → wi.cell? ⟨gi, q * 2, none⟩ = some (.int .i64 (nd (rowOf dels m) q)) := by
              intro q hq
              obtain ⟨g', e, _, h1, _⟩ := ed_cells HIN.out rfl hq
              cases e
              exact (hbi.cell (World.block_lt_of_cell? _ _ h1)).trans h1
            have hpr : wi.rowIs wo.heap.size 21 (lenOf dels m) (fun k => .int .i32 ((fun k => k) k : Nat)) := hjr.congr fun k hk => by unfold idTo; rw [if_pos hk]
            have HBI : Hid (Below wo.heap.size wo wi) := hbi
            clear hjr hbi
            go_wp2_with fail
            refine (sortByNode_any wo.heap.size gi (lenOf dels m) ci (rowOf dels m) (fun k => k) wi (by omega) (by omega) (perm_id _) hpr hdc (by omega)).mono ?_
            rintro e w2 ⟨rfl, p, hp, hasc, hrow, hk⟩
            have hb2 : Below wo.heap.size wo w2 := HBI.out.trans (hk.below HBI.out.size (fun k h => by omega))
            clear hpr hdc hgc2
            obtain ⟨⟨D, hown, hD, hat⟩, hr⟩ := HX.out.keep hb2
            have hv : codeV (.slice (some ⟨wo.heap.size, 0, none⟩) (lenOf dels m) (lenOf dels m)) = some (codeD wo.heap.size (lenOf dels m), []) := rfl
            have HW : Hid _ := hb2
            have HRW : Hid (w2.rowIs wo.heap.size 21 (lenOf dels m) (fun k => .int .i32 (p k : Nat))) := hrow
            have HR : Hid _ := hr
            have HAT : Hid _ := hat
            have HPP : Hid (Perm (lenOf dels m) p ∧ AscTo (nodeP (rowOf dels m) p) (lenOf dels m)) := ⟨hp, hasc⟩
            clear hb2 hrow hr hat hp hasc hk
            go_wp2_with (first | (at_mapUpdate; refine wpList_mapUpdate_own _ rfl _ _ _ 48 rfl 3 67 Tryf.keyed Tryf.underlying48 _ w.heap.size m D rfl hown (by unfold maxLen; omega) _ _ (.int .i64 (m : Int)) rfl rfl (key_of m (by omega)) (codeD wo.heap.size (lenOf dels m)) [] hv ?_) | go_in)
            intro w3 hown3 hgrow3
            go_wp2
            go_roundw
            case rel =>
              refine ⟨m + 1, _, _, by omega, by go_num, IdxTo.add hD HAT.out HR.out hown3 hgrow3 lw HRW.out HPP.out.1 HPP.out.2, ?_⟩
              have h1 : Below w.heap.size w w2 := HB.out.trans (HW.out.mono HB.out.size)
              exact h1.grown hgrow3 h1.size (fun k hk => by cases hk; exact Nat.le_refl _)
            case measure => simp [intOf]; omega
      · have hd8 : decide ((8 : Int) < (lenOf dels m : Int)) = false := decide_eq_false (by omega)
        clear hin
        go_wp2
        go_roundw
        case rel => exact ⟨m + 1, I, ps, by omega, by go_num, HX.out.skip h8, HB.out⟩
        case measure => simp [intOf]; omega
    · obtain rfl : m = M := by omega
      go_wp2
      go_ret
      exact ⟨I, ps, rfl, hidx, hb⟩
end Go.Proofs.Qxb6616309aFmt
