/-
  THE WALK of 'FnWithinBothWaysIsEquality', over slices that read as numbers.
-/
import Derived.Test.Qxb6618271aCopy
import Derived.Deep.DeepCutAuto
import Derived.WalkSpells
namespace Go.Proofs.Qxb6618271a
open Go.RowKit

/-- WHAT STANDS IN MEMORY BEHIND THE TWO 'ZZCPUSet's: the two boxes, their rows of words, the copies. -/
structure Held (w0 w : World) (bs bt g g' n0 n2 : Nat) (A B C D : List Int) (e0 e1 e2 e3 : Option Addr) : Prop where
  ls : bs < w.heap.size
  lt : bt < w.heap.size
  cs : w.cell? ⟨bs, 0, none⟩ = some (.slice (some ⟨g, 0, none⟩) n0 n0)
  ct : w.cell? ⟨bt, 0, none⟩ = some (.slice (some ⟨g', 0, none⟩) n2 n2)
  rs : w.rowIs g 33 (n0 * 2) (wcell A B)
  rt : w.rowIs g' 33 (n2 * 2) (wcell C D)
  ia : Ints .i64 w e0 n0 A
  ib : Ints .u64 w e1 n0 B
  ic : Ints .i64 w e2 n2 C
  id : Ints .u64 w e3 n2 D
  bw : Below w0.heap.size w0 w

theorem Held.below {w0 w w' : World} {bs bt g g' n0 n2 : Nat} {A B C D : List Int} {e0 e1 e2 e3 : Option Addr} (h : Held w0 w bs bt g g' n0 n2 A B C D e0 e1 e2 e3) (hb : Below w.heap.size w w') : Held w0 w' bs bt g g' n0 n2 A B C D e0 e1 e2 e3 :=
  ⟨Nat.lt_of_lt_of_le h.ls hb.size, Nat.lt_of_lt_of_le h.lt hb.size, (hb.cell (p := ⟨bs, 0, none⟩) h.ls).trans h.cs, (hb.cell (p := ⟨bt, 0, none⟩) h.lt).trans h.ct,
    rowIs_below h.rs hb h.rs.lt, rowIs_below h.rt hb h.rt.lt, h.ia.below hb, h.ib.below hb, h.ic.below hb, h.id.below hb, h.bw.trans (hb.mono h.bw.size)⟩

set_option maxRecDepth 100000 in
set_option maxHeartbeats 1000000 in
theorem law4 (a0 a1 a2 a3 : Option Addr) (n0 n1 n2 n3 c0 c1 c2 c3 : Nat) (A B C D : List Int) (w : World)
    (hA : Ints .i64 w a0 n0 A) (hB : Ints .u64 w a1 n1 B) (hC : Ints .i64 w a2 n2 C) (hD : Ints .u64 w a3 n3 D) (uB : U64s B) (uD : U64s D) :
    Calls Try.prog 4 #[.slice a0 n0 c0, .slice a1 n1 c1, .slice a2 n2 c2, .slice a3 n3 c3] w fun e w' => e = .returned (.bool true) ∧ Below w.heap.size w w' := by
  go_enter Try.func4, Try.ntmps4
  go_wp2_with fail
  refine (bytes10 a0 a1 a2 a3 n0 n1 n2 n3 c0 c1 c2 c3 w).mono ?_
  rintro e w1 ⟨r, rfl, rfl⟩
  cases r
  · go_wp2
    go_ret
    exact ⟨rfl, Below.refl _ _⟩
  by_cases hsz : n0 ≤ 65536 ∧ n1 ≤ 65536 ∧ n2 ≤ 65536 ∧ n3 ≤ 65536 ∧ n0 + n1 + n2 + n3 ≤ 131072
  case neg =>
    go_wp2_with fail
    all_goals
      go_ret
      exact ⟨rfl, Below.refl _ _⟩
  obtain ⟨s0, s1, s2, s3, s4⟩ := hsz
  go_wp2_with fail
  refine (form_any a0 a1 n0 n1 c0 c1 A B w s0 hA hB).mono ?_
  rintro e w1 ⟨r, rfl, hr, hb1⟩
  cases r
  · go_wp2
    go_ret
    exact ⟨rfl, hb1⟩
  obtain ⟨rfl, aA⟩ := hr rfl
  go_wp2_with fail
  refine (form_any a2 a3 n2 n3 c2 c3 C D w1 s2 (hC.below hb1) (hD.below hb1)).mono ?_
  rintro e w2 ⟨r, rfl, hr', hb2⟩
  cases r
  · go_wp2
    go_ret
    exact ⟨rfl, hb1.trans (hb2.mono hb1.size)⟩
  obtain ⟨rfl, aC⟩ := hr' rfl
  have hbw : Below w.heap.size w w2 := hb1.trans (hb2.mono hb1.size)
  replace hA := hA.below hbw
  replace hB := hB.below hbw
  replace hC := hC.below hbw
  replace hD := hD.below hbw
  clear hb1 hb2 hr hr'
  have q22 := fun (wx : World) (a : Option Addr) (n c : Nat) => run_neq_slice_nil_any (P := Try.prog) wx 22 3 a n c 0 0 Try.underlying22
  have q23 := fun (wx : World) (a : Option Addr) (n c : Nat) => run_neq_slice_nil_any (P := Try.prog) wx 23 31 a n c 0 0 Try.underlying23
  go_upto_if 63 with fail
  go_cut [0] (fun v wc => ∃ a c, v = .slice a n0 c ∧ Ints .i64 wc a n0 A ∧ Below w2.heap.size w2 wc)
  case first =>
    cases a0 with
    | none =>
      go_wp2
      go_meet
      case rel => exact ⟨_, _, rfl, hA, Below.refl _ _⟩
    | some x =>
      have hcp := fun c ty => copy_new 22 3 .i64 Try.underlying22 Try.size3 x n0 c A w2 hA ty
      have hmk := make22 n0 (by omega)
      have HCD : Hid (Ints .i64 (w2.alloc (.cells (A.map (Value.int .i64)).toArray 3)) (some ⟨w2.heap.size, 0, none⟩) n0 A) := copied 3 .i64 n0 A w2 hA.1
      go_wp2
      go_meet
      case rel => exact ⟨_, _, rfl, HCD.out, (Below.refl _ _).alloc (Nat.le_refl _) _⟩
  case rest =>
  clear hA
  obtain ⟨e0, k0, rfl, hA, hbc⟩ := hcut
  obtain ⟨w3, rfl⟩ : ∃ x : World, x = wc := ⟨_, rfl⟩
  replace hB := hB.below hbc
  replace hC := hC.below hbc
  replace hD := hD.below hbc
  replace hbw : Below w.heap.size w w3 := hbw.trans (hbc.mono hbw.size)
  clear hbc
  go_upto_if 72 with fail
  go_cut [1] (fun v wc => ∃ a c, v = .slice a n0 c ∧ Ints .u64 wc a n0 B ∧ Below w3.heap.size w3 wc)
  case first =>
    cases a1 with
    | none =>
      go_wp2
      go_meet
      case rel => exact ⟨_, _, rfl, hB, Below.refl _ _⟩
    | some x =>
      have hcp := fun c ty => copy_new 23 31 .u64 Try.underlying23 Try.size31 x n0 c B w3 hB ty
      have hmk := make23 n0 (by omega)
      have HCD : Hid (Ints .u64 (w3.alloc (.cells (B.map (Value.int .u64)).toArray 31)) (some ⟨w3.heap.size, 0, none⟩) n0 B) := copied 31 .u64 n0 B w3 hB.1
      go_wp2
      go_meet
      case rel => exact ⟨_, _, rfl, HCD.out, (Below.refl _ _).alloc (Nat.le_refl _) _⟩
  case rest =>
  clear hB
  obtain ⟨e1, k1, rfl, hB, hbc⟩ := hcut
  obtain ⟨w4, rfl⟩ : ∃ x : World, x = wc := ⟨_, rfl⟩
  replace hA := hA.below hbc
  replace hC := hC.below hbc
  replace hD := hD.below hbc
  replace hbw : Below w.heap.size w w4 := hbw.trans (hbc.mono hbw.size)
  clear hbc
  go_upto_if 81 with fail
  go_cut [2] (fun v wc => ∃ a c, v = .slice a n2 c ∧ Ints .i64 wc a n2 C ∧ Below w4.heap.size w4 wc)
  case first =>
    cases a2 with
    | none =>
      go_wp2
      go_meet
      case rel => exact ⟨_, _, rfl, hC, Below.refl _ _⟩
    | some x =>
      have hcp := fun c ty => copy_new 22 3 .i64 Try.underlying22 Try.size3 x n2 c C w4 hC ty
      have hmk := make22 n2 (by omega)
      have HCD : Hid (Ints .i64 (w4.alloc (.cells (C.map (Value.int .i64)).toArray 3)) (some ⟨w4.heap.size, 0, none⟩) n2 C) := copied 3 .i64 n2 C w4 hC.1
      go_wp2
      go_meet
      case rel => exact ⟨_, _, rfl, HCD.out, (Below.refl _ _).alloc (Nat.le_refl _) _⟩
  case rest =>
  clear hC
  obtain ⟨e2, k2, rfl, hC, hbc⟩ := hcut
  obtain ⟨w5, rfl⟩ : ∃ x : World, x = wc := ⟨_, rfl⟩
  replace hA := hA.below hbc
  replace hB := hB.below hbc
  replace hD := hD.below hbc
  replace hbw : Below w.heap.size w w5 := hbw.trans (hbc.mono hbw.size)
  clear hbc
  go_upto_if 90 with fail
  go_cut [3] (fun v wc => ∃ a c, v = .slice a n2 c ∧ Ints .u64 wc a n2 D ∧ Below w5.heap.size w5 wc)
  case first =>
    cases a3 with
    | none =>
      go_wp2
      go_meet
      case rel => exact ⟨_, _, rfl, hD, Below.refl _ _⟩
    | some x =>
      have hcp := fun c ty => copy_new 23 31 .u64 Try.underlying23 Try.size31 x n2 c D w5 hD ty
      have hmk := make23 n2 (by omega)
      have HCD : Hid (Ints .u64 (w5.alloc (.cells (D.map (Value.int .u64)).toArray 31)) (some ⟨w5.heap.size, 0, none⟩) n2 D) := copied 31 .u64 n2 D w5 hD.1
      go_wp2
      go_meet
      case rel => exact ⟨_, _, rfl, HCD.out, (Below.refl _ _).alloc (Nat.le_refl _) _⟩
  case rest =>
  clear hD
  obtain ⟨e3, k3, rfl, hD, hbc⟩ := hcut
  obtain ⟨w6, rfl⟩ : ∃ x : World, x = wc := ⟨_, rfl⟩
  replace hA := hA.below hbc
  replace hB := hB.below hbc
  replace hC := hC.below hbc
  replace hbw : Below w.heap.size w w6 := hbw.trans (hbc.mono hbw.size)
  clear hbc
  clear q22 q23
  go_wp2_with fail
  refine (build_any e0 e1 n0 k0 k1 A B w6 s0 hA hB).mono ?_
  rintro e w7 ⟨g, rfl, hg, hrow, hb7⟩
  have hlg := hrow.lt
  replace hA := hA.below hb7
  replace hB := hB.below hb7
  replace hC := hC.below hb7
  replace hD := hD.below hb7
  replace hbw : Below w.heap.size w w7 := hbw.trans (hb7.mono hbw.size)
  clear hb7
  have nb : ∀ o, Below w7.heap.size w7 (w7.alloc o) := fun o => (Below.refl _ _).alloc (Nat.le_refl _) o
  go_wp2_with fail
  refine (build_any e2 e3 n2 k2 k3 C D _ s2 (hC.below (nb _)) (hD.below (nb _))).mono ?_
  rintro e w8 ⟨g', rfl, hg', hrow', hb8⟩
  have hlg' := hrow'.lt
  have hz : (w7.alloc (.cells #[.slice (some ⟨g, 0, none⟩) n0 n0] 28)).heap.size = w7.heap.size + 1 := by simp
  rw [hz] at hb8 hg'
  have hbox : w8.cell? ⟨w7.heap.size, 0, none⟩ = some (.slice (some ⟨g, 0, none⟩) n0 n0) := (hb8.cell (p := ⟨w7.heap.size, 0, none⟩) (by show w7.heap.size < _; omega)).trans (by simp)
  have hrow8 : w8.rowIs g 33 (n0 * 2) (wcell A B) := rowIs_below (hrow.alloc _) hb8 (by omega)
  have hb78 : Below w7.heap.size w7 w8 := (nb _).trans (hb8.mono (by omega))
  have hsz8 : w7.heap.size < w8.heap.size := by have := hb8.size; rw [hz] at this; omega
  replace hA := hA.below hb78
  replace hB := hB.below hb78
  replace hC := hC.below hb78
  replace hD := hD.below hb78
  replace hbw : Below w.heap.size w w8 := hbw.trans (hb78.mono hbw.size)
  clear hb8 hb78 nb hz hrow
  have hbox' : ∀ o, (w8.alloc o).cell? ⟨w7.heap.size, 0, none⟩ = some (.slice (some ⟨g, 0, none⟩) n0 n0) := fun o => (World.cell?_alloc_past _ _ _ hsz8).trans hbox
  have nb : ∀ o, Below w8.heap.size w8 (w8.alloc o) := fun o => (Below.refl _ _).alloc (Nat.le_refl _) o
  have hlA := hA.1
  have hlB := hB.1
  have hlC := hC.1
  have hlD := hD.1
  have HlA : Hid (A.length = n0) := hlA
  have HlB : Hid (B.length = n0) := hlB
  have HlC : Hid (C.length = n2) := hlC
  have HlD : Hid (D.length = n2) := hlD
  clear hlA hlB hlC hlD
  go_wp2_with fail
  refine (within_any g g' n0 n2 n0 n2 A B C D _ HlA.out HlB.out HlC.out HlD.out s0 s2 aA aC uB (hrow8.alloc _) (hrow'.alloc _)).mono ?_
  rintro e w9 ⟨r, rfl, hr, hb9⟩
  have hb89 : Below w8.heap.size w8 w9 := (nb _).trans (hb9.mono (by simp))
  have H9 : Held w w9 w7.heap.size w8.heap.size g g' n0 n2 A B C D e0 e1 e2 e3 := by
    refine ⟨by have := hb89.size; omega, by have := hb9.size; simp at this; omega, (hb89.cell (p := ⟨w7.heap.size, 0, none⟩) hsz8).trans hbox, (hb9.cell (p := ⟨w8.heap.size, 0, none⟩) (by simp)).trans (by simp), rowIs_below hrow8 hb89 hrow8.lt, rowIs_below hrow' hb89 hlg', hA.below hb89, hB.below hb89, hC.below hb89, hD.below hb89, hbw.trans (hb89.mono hbw.size)⟩
  have HS : Hid ((Sub A B C D ∧ Sub C D A B) ↔ Same A B C D) := both_iff_same aA aC uB uD (by rw [HlA.out, HlB.out]) (by rw [HlC.out, HlD.out])
  clear hb89 hb9 hA hB hC hD hbw hbox hbox' hrow8 hrow' nb
  have self1 : Hid (Sub A B A B) := sub_self uB (by rw [HlA.out, HlB.out])
  have self2 : Hid (Sub C D C D) := sub_self uD (by rw [HlC.out, HlD.out])
  cases r with
  | false =>
    have hno : Hid (¬ Same A B C D) := fun h => by have := hr.2 (HS.out.2 h).1; cases this
    clear hr
    have hcs := H9.cs
    have hct := H9.ct
    go_wp2_with fail
    refine (same_any e0 e1 e2 e3 n0 n2 k0 k1 k2 k3 A B C D w9 s0 H9.ia H9.ib H9.ic H9.id).mono ?_
    rintro e w10 ⟨q, rfl, hq, hb10⟩
    have hqf : q = false := by cases q with | false => rfl | true => exact absurd (hq.1 rfl) hno.out
    clear hq
    subst hqf
    replace H9 := H9.below hb10
    clear hb10 hcs hct
    have hcs := H9.cs
    have hct := H9.ct
    go_wp2_with fail
    refine (within_any g g n0 n0 n0 n0 A B A B w10 HlA.out HlB.out HlA.out HlB.out s0 s0 aA aA uB H9.rs H9.rs).mono ?_
    rintro e w11 ⟨q, rfl, hq, hb11⟩
    have hqt : q = true := hq.2 self1.out
    clear hq
    subst hqt
    replace H9 := H9.below hb11
    clear hb11 hcs hct
    have hcs := H9.cs
    have hct := H9.ct
    go_wp2_with fail
    refine (within_any g' g' n2 n2 n2 n2 C D C D w11 HlC.out HlD.out HlC.out HlD.out s2 s2 aC aC uD H9.rt H9.rt).mono ?_
    rintro e w12 ⟨q, rfl, hq, hb12⟩
    have hqt : q = true := hq.2 self2.out
    clear hq
    subst hqt
    replace H9 := H9.below hb12
    go_wp2
    go_ret
    exact ⟨rfl, H9.bw⟩
  | true =>
    have hr1 : Hid (Sub A B C D) := hr.1 rfl
    clear hr
    have hcs := H9.cs
    have hct := H9.ct
    go_wp2_with fail
    refine (within_any g' g n2 n0 n2 n0 C D A B w9 HlC.out HlD.out HlA.out HlB.out s2 s0 aC aA uD H9.rt H9.rs).mono ?_
    rintro e w9' ⟨r2, rfl, hr2, hb9⟩
    obtain ⟨w9, hw9⟩ : ∃ x : World, x = w9' := ⟨_, rfl⟩
    subst hw9
    replace H9 := H9.below hb9
    clear hb9 hcs hct
    have hcs := H9.cs
    have hct := H9.ct
    cases r2 with
    | false =>
      have hno : Hid (¬ Same A B C D) := fun h => by have := hr2.2 (HS.out.2 h).2; cases this
      clear hr2
      go_wp2_with fail
      refine (same_any e0 e1 e2 e3 n0 n2 k0 k1 k2 k3 A B C D w9 s0 H9.ia H9.ib H9.ic H9.id).mono ?_
      rintro e w10 ⟨q, rfl, hq, hb10⟩
      have hqf : q = false := by cases q with | false => rfl | true => exact absurd (hq.1 rfl) hno.out
      clear hq
      subst hqf
      replace H9 := H9.below hb10
      clear hb10 hcs hct
      have hcs := H9.cs
      have hct := H9.ct
      go_wp2_with fail
      refine (within_any g g n0 n0 n0 n0 A B A B w10 HlA.out HlB.out HlA.out HlB.out s0 s0 aA aA uB H9.rs H9.rs).mono ?_
      rintro e w11 ⟨q, rfl, hq, hb11⟩
      have hqt : q = true := hq.2 self1.out
      clear hq
      subst hqt
      replace H9 := H9.below hb11
      clear hb11 hcs hct
      have hcs := H9.cs
      have hct := H9.ct
      go_wp2_with fail
      refine (within_any g' g' n2 n2 n2 n2 C D C D w11 HlC.out HlD.out HlC.out HlD.out s2 s2 aC aC uD H9.rt H9.rt).mono ?_
      rintro e w12 ⟨q, rfl, hq, hb12⟩
      have hqt : q = true := hq.2 self2.out
      clear hq
      subst hqt
      replace H9 := H9.below hb12
      go_wp2
      go_ret
      exact ⟨rfl, H9.bw⟩
    | true =>
      have hyes : Hid (Same A B C D) := HS.out.1 ⟨hr1.out, hr2.1 rfl⟩
      clear hr2
      go_wp2_with fail
      refine (same_any e0 e1 e2 e3 n0 n2 k0 k1 k2 k3 A B C D w9 s0 H9.ia H9.ib H9.ic H9.id).mono ?_
      rintro e w10 ⟨q, rfl, hq, hb10⟩
      have hqf : q = true := hq.2 hyes.out
      clear hq
      subst hqf
      replace H9 := H9.below hb10
      clear hb10 hcs hct
      have hcs := H9.cs
      have hct := H9.ct
      go_wp2_with fail
      refine (within_any g g n0 n0 n0 n0 A B A B w10 HlA.out HlB.out HlA.out HlB.out s0 s0 aA aA uB H9.rs H9.rs).mono ?_
      rintro e w11 ⟨q, rfl, hq, hb11⟩
      have hqt : q = true := hq.2 self1.out
      clear hq
      subst hqt
      replace H9 := H9.below hb11
      clear hb11 hcs hct
      have hcs := H9.cs
      have hct := H9.ct
      go_wp2_with fail
      refine (within_any g' g' n2 n2 n2 n2 C D C D w11 HlC.out HlD.out HlC.out HlD.out s2 s2 aC aC uD H9.rt H9.rt).mono ?_
      rintro e w12 ⟨q, rfl, hq, hb12⟩
      have hqt : q = true := hq.2 self2.out
      clear hq
      subst hqt
      replace H9 := H9.below hb12
      go_wp2
      go_ret
      exact ⟨rfl, H9.bw⟩

end Go.Proofs.Qxb6618271a
