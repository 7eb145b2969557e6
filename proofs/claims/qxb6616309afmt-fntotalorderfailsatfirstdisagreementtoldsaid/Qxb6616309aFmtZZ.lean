/-
  THE WALKS of the small callees: the doors ZZ.., and 'fails' at a delivery told before.
-/
import Derived.Test.Qxb6616309aFmtFails
namespace Go.Proofs.Qxb6616309aFmt
open Go.RowKit

set_option maxHeartbeats 2000000 in
theorem failsAgain_any (tb bb M dl fs : Nat) (nv v : Value) (d : BcD) (dels : List (List (Int × Int))) (seq : Int) (node : ByteArray) (w : World) (ht : w.rowIs tb 53 2 (tcell bb v)) (b : Bc w bb nv d dels M dl fs) (hdl : dl < M) (hfs : fs < lenOf dels dl) (hs : sq (rowOf dels dl) fs ≠ seq) :
    Calls Tryf.prog 15 #[.pointer (some ⟨tb, 0, none⟩), .agg (lineA seq ⟨#[110, 111, 116, 101]⟩ none 0 0 node)] w fun e w' => e = .returned (.string ByteArray.empty) ∧ Below w.heap.size w w' := by
  have t0 : w.cell? ⟨tb, 0, none⟩ = some (.pointer (some ⟨bb, 0, none⟩)) := ht.cell (i := 0) (by decide)
  have lt := ht.lt
  have hsb : (sq (rowOf dels dl) fs == seq) = false := by simpa using hs
  have HBc : Hid _ := b
  clear b ht
  unfold lineA
  go_enter Tryf.func15, Tryf.ntmps15
  go_wp2_with fail
  refine Calls.mono (delivers_any bb _ d dels M dl fs seq ⟨#[110, 111, 116, 101]⟩ none 0 0 node _ (HBc.out.below (w' := w.alloc (.cells (lineA seq ⟨#[110, 111, 116, 101]⟩ none 0 0 node) 39)) ((Below.refl _ w).alloc (Nat.le_refl _) _)) hdl hfs) ?_
  rintro e w1 ⟨rfl, hb1⟩
  have HBW : Hid (Below w.heap.size w w1) := ((Below.refl _ w).alloc (Nat.le_refl _) _).trans (hb1.mono (by simp))
  clear hb1
  rw [hsb]
  go_wp2
  go_ret
  exact ⟨rfl, HBW.out⟩

theorem newTotal_any (bp ov : Value) (bb : Nat) (a : Option Addr) (n c : Nat) (w : World) (hb : bp = .pointer (some ⟨bb, 0, none⟩)) (ho : ov = .slice a n c) :
    Calls Tryf.prog 6 #[bp, ov] w fun e w' => e = .returned (.pointer (some ⟨w.heap.size, 0, none⟩)) ∧ w' = w.alloc (.cells #[.pointer (some ⟨bb, 0, none⟩), .slice a n c] 53) := by
  subst hb ho
  go_enter Tryf.func6, Tryf.ntmps6
  go_wp2
  go_ret
  exact ⟨rfl, rfl⟩

theorem newBroadcasts_any (a a' : Option Addr) (n c n' c' : Nat) (mp : Option Nat) (s dl fs : Int) (w : World) :
    Calls Tryf.prog 7 #[.slice a n c, .slice a' n' c', .map mp, .int .i64 s, .int .i64 dl, .int .i64 fs] w fun e w' => e = .returned (.pointer (some ⟨w.heap.size, 0, none⟩)) ∧
      w' = w.alloc (.cells #[.slice a n c, .map none, .map none, .slice a' n' c', .map mp, .int .i64 s, .int .i64 dl, .int .i64 fs] 56) := by
  go_enter Tryf.func7, Tryf.ntmps7
  go_wp2
  go_ret
  exact ⟨rfl, rfl⟩

theorem callFails_any {Q : Ending → World → Prop} (tb : Nat) (seq : Int) (kind : ByteArray) (a : Option Addr) (n c : Nat) (node : ByteArray) (w : World)
    (h : Calls Tryf.prog 15 #[.pointer (some ⟨tb, 0, none⟩), .agg (lineA seq kind a n c node)] (w.alloc (.cells (lineA seq kind a n c node) 39)) fun e w' => ∃ t : ByteArray, e = .returned (.string t) ∧ Q e w') :
    Calls Tryf.prog 8 #[.pointer (some ⟨tb, 0, none⟩), .agg (lineA seq kind a n c node)] w Q := by
  unfold lineA at h ⊢
  go_enter Tryf.func8, Tryf.ntmps8
  go_wp2_with fail
  refine h.mono ?_
  rintro e w1 ⟨t, rfl, hq⟩
  go_wp2
  exact hq

theorem ordersOf_any (tb bb : Nat) (a : Option Addr) (n c : Nat) (w : World) (ht : w.rowIs tb 53 2 (tcell bb (.slice a n c))) :
    Calls Tryf.prog 9 #[.pointer (some ⟨tb, 0, none⟩)] w fun e w' => e = .returned (.slice a n c) ∧ w' = w := by
  have t1 : w.cell? ⟨tb, 1, none⟩ = some (.slice a n c) := ht.cell (i := 1) (by decide)
  go_enter Tryf.func9, Tryf.ntmps9
  go_wp2
  go_ret
  exact ⟨rfl, rfl⟩

theorem newDelivery_any (a b : Int) (w : World) : Calls Tryf.prog 16 #[.int .i64 a, .int .i64 b] w fun e w' => e = .returned (.agg #[.int .i64 a, .int .i64 b]) ∧ w' = w.alloc (.cells #[.int .i64 a, .int .i64 b] 61) := by
  go_enter Tryf.func16, Tryf.ntmps16
  go_wp2
  exact bodyPost_ret (v := .agg #[.int .i64 a, .int .i64 b]) (by simp [results, Tryf.results16, go_sem]) rfl ⟨rfl, rfl⟩

theorem newMessage_any (s : ByteArray) (a : Option Addr) (n c : Nat) (w : World) : Calls Tryf.prog 17 #[.string s, .slice a n c] w fun e w' => e = .returned (.agg #[.string s, .int .i64 0, .int .i64 0, .slice a n c]) ∧ w' = w.alloc (.cells #[.string s, .int .i64 0, .int .i64 0, .slice a n c] 64) := by
  go_enter Tryf.func17, Tryf.ntmps17
  go_wp2
  exact bodyPost_ret (v := .agg #[.string s, .int .i64 0, .int .i64 0, .slice a n c]) (by simp [results, Tryf.results17, go_sem]) rfl ⟨rfl, rfl⟩

end Go.Proofs.Qxb6616309aFmt
