/-
  THE WALK of 'b1Itoa': it answers some short text (which one, nothing hangs on).
-/
import Derived.Test.Qxb6616309aFmtMem
import Derived.Laws.BytesArg
namespace Go.Proofs.Qxb6616309aFmt
open Go.RowKit

theorem ite_u8 (c : Prop) [Decidable c] (a b : Int) : (if c then Value.int .u8 a else Value.int .u8 b) = Value.int .u8 (if c then a else b) := by split <;> rfl
theorem twenty (i : Nat) (hi : i < 20) : (#[Value.int .u8 0, Value.int .u8 0, Value.int .u8 0, Value.int .u8 0, Value.int .u8 0, Value.int .u8 0, Value.int .u8 0, Value.int .u8 0, Value.int .u8 0, Value.int .u8 0, Value.int .u8 0, Value.int .u8 0, Value.int .u8 0, Value.int .u8 0, Value.int .u8 0, Value.int .u8 0, Value.int .u8 0, Value.int .u8 0, Value.int .u8 0, Value.int .u8 0] : Array Value)[i]? = some (.int .u8 0) := by
  have h : (#[Value.int .u8 0, Value.int .u8 0, Value.int .u8 0, Value.int .u8 0, Value.int .u8 0, Value.int .u8 0, Value.int .u8 0, Value.int .u8 0, Value.int .u8 0, Value.int .u8 0, Value.int .u8 0, Value.int .u8 0, Value.int .u8 0, Value.int .u8 0, Value.int .u8 0, Value.int .u8 0, Value.int .u8 0, Value.int .u8 0, Value.int .u8 0, Value.int .u8 0] : Array Value) = Array.replicate 20 (.int .u8 0) := rfl
  rw [h]
  simp [hi]

theorem Tryf.arr76 : Tryf.prog.underlying 76 = some (.array (Tryf.prog.arrayLen 76) (Tryf.prog.elem 76)) := by kernel_rfl
theorem Tryf.len76 : Tryf.prog.arrayLen 76 = 20 := by kernel_rfl
theorem Tryf.el76 (w : World) : (sizeOf (Tryf.prog.elem 76)).run Tryf.prog w = .ok 1 w := by kernel_rfl
theorem tail76 (w : World) (b i : Nat) (hi : i < 20) : (Instr.sliceAt 76 (.pointer (some ⟨b, 0, none⟩)) (some (.int .i64 (i : Int))) none none).run Tryf.prog w = .ok (.slice (some ⟨b, i, none⟩) (20 - i) (20 - i)) w := by
  rw [run_sliceAt_array_l w 76 ⟨b, 0, none⟩ Tryf.arr76 .i64 i (by omega) (by rw [Tryf.len76]; omega), Tryf.el76, Tryf.len76]
  have : ¬ (20 = i) := by omega
  simp [slicedAt, Result.andThen, this, Addr.add]
  omega

set_option maxRecDepth 100000 in
set_option maxHeartbeats 2000000 in
theorem itoa_any (m : Nat) (hm : m ≤ 65536) (w : World) : Calls Tryf.prog 18 #[.int .i64 m] w fun e w' => (∃ t : ByteArray, e = .returned (.string t) ∧ t.size ≤ 20) ∧ Below w.heap.size w w' := by
  rcases Nat.eq_zero_or_pos m with h0 | h0
  · subst h0
    go_enter Tryf.func18, Tryf.ntmps18
    go_wp2
    go_ret
    exact ⟨⟨_, rfl, by decide⟩, Below.refl _ _⟩
  · go_enter Tryf.func18, Tryf.ntmps18
    go_wp2
    go_loopw [0, 4] (fun vn vi wr => ∃ (x i : Nat) (f : Nat → Int), i ≤ 20 ∧ (x = 0 → i < 20) ∧ x < 10 ^ i ∧ x ≤ 65536 ∧ vn = .int .i64 x ∧ vi = .int .i64 i ∧ wr.rowIs w.heap.size 76 20 (fun j => .int .u8 (f j)) ∧ Below w.heap.size w wr) (fun vn _ _ => (intOf vn).toNat)
    case atStart => exact ⟨m, 20, fun _ => 0, by omega, by omega, by omega, hm, rfl, rfl, World.rowIs_alloc w _ 76 _ (fun i hi => twenty i hi), (Below.refl _ _).alloc (Nat.le_refl _) _⟩
    case round =>
      obtain ⟨x, i, f, hi, hi0, hx, hx2, rfl, rfl, hr, hb⟩ := hrel
      obtain ⟨wo, rfl⟩ : ∃ x : World, x = wr := ⟨_, rfl⟩
      rcases Nat.eq_zero_or_pos x with hz | hz
      · subst hz
        have hsl := tail76 wo w.heap.size i (hi0 rfl)
        have hcv := run_convert_bytes_arg (P := Tryf.prog) wo 77 5 Tryf.underlying77 Tryf.underlying5 w.heap.size i (20 - i) (20 - i) ((List.range (20 - i)).map fun j => f (i + j)) (by simp) (fun j hj => by
          rw [hr.cell (by omega)]
          simp [List.getD, hj]) 9 Tryf.underlying9
        have hsz : (strOfNums ((List.range (20 - i)).map fun j => f (i + j))).size ≤ 20 := by
          simp [strOfNums, ByteArray.size]
        clear hx
        have HB : Hid _ := hb
        clear hb hr
        go_wp2
        go_ret
        exact ⟨⟨_, rfl, hsz⟩, HB.out⟩
      · obtain ⟨k, rfl⟩ : ∃ k, i = k + 1 := by
          rcases i with _ | k
          · simp at hx; omega
          · exact ⟨k, rfl⟩
        have hc := hr.cell (show k < 20 by omega)
        have hz := hr.frozen k
        have HX : Hid (x / 10 < 10 ^ k) := by
          show x / 10 < 10 ^ k
          rw [Nat.pow_succ] at hx
          omega
        clear hx
        go_wp2
        go_roundw
        case rel => exact ⟨x / 10, k, _, by omega, fun _ => by omega, HX.out, by omega, by go_num, by go_num, (hr.set k _).congr (fun j _ => ite_u8 _ _ _), hb.setCell (Nat.le_refl _) _⟩
        case measure => simp [intOf]; omega
end Go.Proofs.Qxb6616309aFmt
