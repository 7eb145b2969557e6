/-
  THE WALK of 'seek': it finds the place of the first word at or above 'at'.
-/
import Derived.Test.Qxb6618271aRows
import Derived.Test.Qxb6618271aPlain
import Derived.WalkKit
import Derived.WalkLawsBesides
namespace Go.Proofs.Qxb6618271a
open Go.RowKit

set_option maxHeartbeats 400000 in
theorem seek_any (b off len cap : Nat) (ts : List Int) (i : Nat) (x : Int) (w : World) (hl : ts.length = len) (hlen : len ≤ 65536) (hi : i ≤ len)
    (hasc : Asc ts) (hbelow : ∀ j, j < i → ts[j]?.getD 0 < x) (hc : ∀ j, j < len → w.cell? ⟨b, off + j * 2, none⟩ = some (.int .i64 (ts[j]?.getD 0))) :
    Calls Try.prog 13 #[.slice (some ⟨b, off, none⟩) len cap, .int .i64 i, .int .i64 x] w fun e w' => ∃ p : Nat, e = .returned (.int .i64 p) ∧ Sk ts x p ∧ w' = w := by
  have HL : Hid (ts.length = len) := hl
  clear hl
  go_enter Try.func13, Try.ntmps13
  go_wp2
  go_loop [1, 7, 8] (fun vi vh vs => ∃ i h s : Nat, i ≤ len ∧ i ≤ h ∧ h ≤ 2 * len ∧ s ≤ h + 1 ∧ 1 ≤ s ∧ vi = .int .i64 i ∧ vh = .int .i64 h ∧ vs = .int .i64 s ∧ ∀ j, j < i → ts[j]?.getD 0 < x)
    (fun _ vh _ => 2 * len - (intOf vh).toNat)
  case atStart => exact ⟨i, i, 1, by omega, by omega, by omega, by omega, by omega, rfl, rfl, rfl, hbelow⟩
  case round =>
    clear hi hbelow
    obtain ⟨i, h, s, h1, h2, h3, h4, h5, rfl, rfl, rfl, hlt⟩ := hrel
    by_cases h0 : h < len ∧ ts[h]?.getD 0 < x
    · obtain ⟨hh, ht⟩ := h0
      have hcell := hc h hh
      have hb := asc_below hasc (by rw [HL.out]; exact hh) ht
      clear hlt
      go_wp2
      go_round
      case rel => exact ⟨h + 1, h + s, 2 * s, by omega, by omega, by omega, by omega, by omega, by go_num, by go_num, by go_num, hb⟩
      case measure => simp [intOf]; omega
    · rcases (show (h < len ∧ x ≤ ts[h]?.getD 0) ∨ len = h ∨ len < h from by omega) with ⟨hh, ht⟩ | hh | hh
      case' inl => have hcell := hc h hh
      case' inr.inl => subst hh
      all_goals
        clear h0
        go_wp2
        go_loop [1, 7] (fun vi vh => ∃ i h : Nat, i ≤ h ∧ h ≤ len ∧ vi = .int .i64 i ∧ vh = .int .i64 h ∧ (∀ j, j < i → ts[j]?.getD 0 < x) ∧ (h < len → x ≤ ts[h]?.getD 0)) (fun vi vh => (intOf vh).toNat - (intOf vi).toNat)
        case atStart => exact ⟨i, _, by first | exact h2 | exact h1, by omega, rfl, rfl, hlt, fun _ => by omega⟩
        case round =>
          clear h1 h2 h3 h4 h5 hlt
          obtain ⟨i, h, h1, h2, rfl, rfl, hlt, hge⟩ := hrel
          by_cases hh : i < h
          · have hcell := hc ((i + h) / 2) (by omega)
            by_cases ht : ts[(i + h) / 2]?.getD 0 < x
            · have hb := asc_below hasc (by rw [HL.out]; omega) ht
              go_wp2
              go_round
              case rel => exact ⟨(i + h) / 2 + 1, h, by omega, by omega, by go_num, by go_num, hb, hge⟩
              case measure => simp [intOf]; omega
            · go_wp2
              go_round
              case rel => exact ⟨i, (i + h) / 2, by omega, by omega, by go_num, by go_num, hlt, fun _ => by omega⟩
              case measure => simp [intOf]; omega
          · go_wp2
            go_ret
            obtain rfl : i = h := by omega
            exact ⟨i, rfl, ⟨by rw [HL.out]; exact h2, hlt, by rw [HL.out]; exact hge⟩, rfl⟩

end Go.Proofs.Qxb6618271a
