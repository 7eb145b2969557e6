/-
  THE BROADCASTS' STATE IN MEMORY ('Bc'), AND THE WALK of 'deliveryBy' over it.
-/
import Derived.Test.Qxb6616309aFmtSeek
namespace Go.Proofs.Qxb6616309aFmt
open Go.RowKit

def dcell (ds : List (Int × Int)) (i : Nat) : Value := if i % 2 = 0 then .int .i64 (nd ds (i / 2)) else .int .i64 (sq ds (i / 2))
theorem dcell_even (ds : List (Int × Int)) (j : Nat) : dcell ds (j * 2) = .int .i64 (nd ds j) := by
  unfold dcell; rw [if_pos (by omega), show j * 2 / 2 = j from by omega]
theorem dcell_odd (ds : List (Int × Int)) (j : Nat) : dcell ds (j * 2 + 1) = .int .i64 (sq ds j) := by
  unfold dcell; rw [if_neg (by omega), show (j * 2 + 1) / 2 = j from by omega]

def rowOf {α : Type} (dels : List (List α)) (m : Nat) : List α := dels[m]?.getD []
def lenOf {α : Type} (dels : List (List α)) (m : Nat) : Nat := (rowOf dels m).length

/-- where the messages, their deliveries and the index lie -/
structure BcD where
  mb : Nat
  ib : Nat
  D : Nat → Nat
  id : Nat → ByteArray
  I : Nat → Nat
  is : Nat → List Int

def bcell (nv : Value) (d : BcD) (M dl fs : Nat) : Nat → Value
  | 0 => nv
  | 1 => .map none
  | 2 => .map none
  | 3 => .slice (some ⟨d.mb, 0, none⟩) M M
  | 4 => .map (some d.ib)
  | 5 => .int .i64 (-1)
  | 6 => .int .i64 dl
  | _ => .int .i64 fs

def mcell (id : Nat → ByteArray) (D n : Nat → Nat) (i : Nat) : Value := if i % 4 = 0 then .string (id (i / 4)) else if i % 4 = 3 then .slice (some ⟨D (i / 4), 0, none⟩) (n (i / 4)) (n (i / 4)) else .int .i64 0
theorem mcell_id (id : Nat → ByteArray) (D n : Nat → Nat) (m : Nat) : mcell id D n (m * 4) = .string (id m) := by
  unfold mcell; rw [if_pos (by omega), show m * 4 / 4 = m from by omega]
theorem mcell_ds (id : Nat → ByteArray) (D n : Nat → Nat) (m : Nat) : mcell id D n (m * 4 + 3) = .slice (some ⟨D m, 0, none⟩) (n m) (n m) := by
  unfold mcell; rw [if_neg (by omega), if_pos (by omega), show (m * 4 + 3) / 4 = m from by omega]

structure Bc (w : World) (bb : Nat) (nv : Value) (d : BcD) (dels : List (List (Int × Int))) (M dl fs : Nat) : Prop where
  len : dels.length = M
  small : M ≤ 65536
  smalls : ∀ m, m < M → lenOf dels m ≤ 65536
  box : w.rowIs bb 56 8 (bcell nv d M dl fs)
  msgs : w.rowIs d.mb 64 (M * 4) (mcell d.id d.D (lenOf dels))
  ds : ∀ m, m < M → w.rowIs (d.D m) 61 (lenOf dels m * 2) (dcell (rowOf dels m))
  mapLt : d.ib < w.heap.size
  mapNo : ∀ c t fr, w.heap[d.ib]? ≠ some (.cells c t fr)
  ix : ∀ m, m < M → 8 < lenOf dels m → w.rowIs (d.I m) 21 (lenOf dels m) (fun i => .int .i32 (ix (d.is m) i)) ∧ IdxOk (lenOf dels m) (rowOf dels m) (d.is m) ∧
    ∀ w' : World, w'.heap[d.ib]? = w.heap[d.ib]? → (Instr.lookup 48 (.map (some d.ib)) (.int .i64 (m : Int)) false).run Tryf.prog w' = .ok (.slice (some ⟨d.I m, 0, none⟩) (lenOf dels m) (lenOf dels m)) w'

namespace Bc
variable {w w' : World} {bb : Nat} {nv : Value} {d : BcD} {dels : List (List (Int × Int))} {M dl fs : Nat}

theorem keep {T : List TypeId} (b : Bc w bb nv d dels M dl fs) (h : Keep (tyS w T) w w') (hT : 56 ∉ T ∧ 64 ∉ T ∧ 61 ∉ T ∧ 21 ∉ T) : Bc w' bb nv d dels M dl fs := by
  have hib : w'.heap[d.ib]? = w.heap[d.ib]? := h.block _ b.mapLt (by rintro ⟨c, t, fr, e, _⟩; exact b.mapNo c t fr e)
  refine ⟨b.len, b.small, b.smalls, h.row b.box (row_notin b.box hT.1), h.row b.msgs (row_notin b.msgs hT.2.1), fun m hm => h.row (b.ds m hm) (row_notin (b.ds m hm) hT.2.2.1), Nat.lt_of_lt_of_le b.mapLt h.size, fun c t fr => by rw [hib]; exact b.mapNo c t fr, fun m hm h8 => ?_⟩
  obtain ⟨h1, h2, h3⟩ := b.ix m hm h8
  exact ⟨h.row h1 (row_notin h1 hT.2.2.2), h2, fun w2 e => h3 w2 (e.trans hib)⟩
theorem below (b : Bc w bb nv d dels M dl fs) (h : Below w.heap.size w w') : Bc w' bb nv d dels M dl fs := b.keep (T := []) (Keep.of_below h) (by simp)
theorem msg (b : Bc w bb nv d dels M dl fs) {m : Nat} (hm : m < M) : MsgAt w d.mb (m * 4) (d.D m) (lenOf dels m) (rowOf dels m) := by
  refine ⟨rfl, ?_, fun j hj => ?_, fun j hj => ?_, b.smalls m hm⟩
  · rw [b.msgs.cell (by omega), mcell_ds]
  · rw [(b.ds m hm).cell (by omega), dcell_even]
  · rw [(b.ds m hm).cell (by omega), dcell_odd]
end Bc

theorem upto_succ {P : Nat → Prop} {i : Nat} (h : ∀ j, j < i → P j) (hi : P i) : ∀ j, j < i + 1 → P j := by
  intro j hj
  by_cases e : j < i
  · exact h j e
  · obtain rfl : j = i := by omega
    exact hi

set_option maxHeartbeats 1000000 in
theorem deliveryBy_any (bb : Nat) (nv : Value) (d : BcD) (dels : List (List (Int × Int))) (M dl fs m : Nat) (q : Int) (w : World) (b : Bc w bb nv d dels M dl fs) (hm : m < M) :
    Calls Tryf.prog 24 #[.pointer (some ⟨bb, 0, none⟩), .int .i64 m, .int .i64 q] w fun e w' => Seeks (lenOf dels m) (nd (rowOf dels m)) q e ∧ Below w.heap.size w w' := by
  have c3 : w.cell? ⟨bb, 3, none⟩ = some (.slice (some ⟨d.mb, 0, none⟩) M M) := b.box.cell (i := 3) (by decide)
  have c4 : w.cell? ⟨bb, 4, none⟩ = some (.map (some d.ib)) := b.box.cell (i := 4) (by decide)
  have hM := b.small
  have hmsg := b.msg hm
  have hL := b.smalls m hm
  have HI : Hid (8 < lenOf dels m → w.rowIs (d.I m) 21 (lenOf dels m) (fun i => .int .i32 (ix (d.is m) i)) ∧ IdxOk (lenOf dels m) (rowOf dels m) (d.is m) ∧
    ∀ w' : World, w'.heap[d.ib]? = w.heap[d.ib]? → (Instr.lookup 48 (.map (some d.ib)) (.int .i64 (m : Int)) false).run Tryf.prog w' = .ok (.slice (some ⟨d.I m, 0, none⟩) (lenOf dels m) (lenOf dels m)) w') := b.ix m hm
  clear b
  generalize hrow : rowOf dels m = ds at hmsg HI
  generalize hlen : lenOf dels m = n at hmsg hL HI
  generalize d.mb = mb at c3 hmsg
  generalize d.D m = D at hmsg
  generalize hI : d.I m = I at HI
  generalize d.ib = ib at c4 HI
  generalize d.is m = is at HI
  have f3 := hmsg.fld
  go_enter Tryf.func24, Tryf.ntmps24
  go_wp2_with fail
  refine (indexed_any mb (m * 4) D n ds w hmsg).mono ?_
  rintro e w1 ⟨rfl, rfl⟩
  by_cases h8 : 8 < n
  · obtain ⟨hir, hok, hlook⟩ := HI.out h8
    have hl := hlook w1 rfl
    clear hlook
    have hic : ∀ j, j < n → w1.cell? ⟨I, j, none⟩ = some (.int .i32 (ix is j)) := fun j hj => hir.cell hj
    have hIlt := hir.lt
    clear hir
    have hd : decide ((8 : Int) < (n : Int)) = true := by simp; omega
    go_wp2_with fail
    refine (search_any mb (m * 4) D n I q ds is w1 hmsg hic hok).mono ?_
    rintro e w2 ⟨⟨p, r, rfl, h1, h2⟩, rfl⟩
    have HB : Below w1.heap.size w1 (w1.alloc (.cells #[.pointer (some ⟨mb, m * 4, none⟩)] 70)) := (Below.refl _ w1).alloc (Nat.le_refl _) _
    cases r with
    | true =>
      obtain ⟨hp, hq⟩ := h1 rfl
      clear h1 h2
      have hcell := hic p hp
      obtain ⟨x, hx, hxl⟩ := hok.rng p hp
      rw [hx] at hcell
      have HX : Hid (nd ds x = q) := by
        show nd ds x = q
        rw [← hq]; unfold nodeAt; rw [hx]; simp
      clear hq hok hx hic
      have HB : Hid _ := HB
      go_wp2
      go_ret2
      exact ⟨⟨x, true, rfl, fun _ => ⟨hxl, HX.out⟩, fun h => (by cases h)⟩, HB.out⟩
    | false =>
      have h2 := h2 rfl
      clear h1
      have HO : Hid _ := hok
      have HB : Hid _ := HB
      have H2 : Hid _ := h2
      clear hok h2
      go_wp2
      go_ret2
      refine ⟨⟨0, false, rfl, fun h => (by cases h), fun _ j hj => ?_⟩, HB.out⟩
      obtain ⟨i, hi, hij⟩ := HO.out.onto j hj
      have := H2.out i hi
      unfold nodeAt at this
      rw [hij] at this
      simpa using this
  · have hd : decide ((8 : Int) < (n : Int)) = false := by simp; omega
    clear HI
    have HM : Hid _ := hmsg
    clear hmsg
    go_wp2
    go_loopw [28] (fun vi wr => ∃ i : Nat, i ≤ n ∧ vi = .int .i64 i ∧ Below w1.heap.size w1 wr ∧ ∀ j, j < i → nd ds j ≠ q) (fun vi _ => n - (intOf vi).toNat)
    case atStart => exact ⟨0, by omega, rfl, Below.refl _ _, fun j hj => by omega⟩
    case round =>
      obtain ⟨i, hi, rfl, hb, hno⟩ := hrel
      by_cases hin : i < n
      · have hm2 := HM.out.below hb
        have n1 := hm2.node i hin
        have n2 := hm2.seq i hin
        clear hm2
        have HB : Hid _ := hb
        have HN : Hid _ := hno
        clear hb hno
        by_cases hq : nd ds i = q
        · have hqb : (nd ds i == q) = true := by simp [hq]
          have HQ : Hid _ := hq
          clear hq
          go_wp2
          go_ret2
          exact ⟨⟨i, true, rfl, fun _ => ⟨hin, HQ.out⟩, fun h => (by cases h)⟩, HB.out.alloc HB.out.size _⟩
        · go_wp2
          go_round
          case rel => exact ⟨i + 1, by omega, by go_num, HB.out.alloc HB.out.size _, upto_succ HN.out hq⟩
          case measure => simp [intOf]; omega
      · go_wp2
        go_ret2
        exact ⟨⟨0, false, rfl, fun h => (by cases h), fun _ j hj => hno j (by omega)⟩, hb⟩
end Go.Proofs.Qxb6616309aFmt
