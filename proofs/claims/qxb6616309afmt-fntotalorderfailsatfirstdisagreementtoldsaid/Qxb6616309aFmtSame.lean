/-
  THE WALKS of 'b1Has' and 'b1SameOrders'.
-/
import Derived.Test.Qxb6616309aFmtShared
namespace Go.Proofs.Qxb6616309aFmt
open Go.RowKit

def Has (zs : List Int) (k : Nat) (x : Int) (e : Ending) : Prop := ∃ b : Bool, e = .returned (.bool b) ∧ (b = true → ∃ j, j < k ∧ ix zs j = x) ∧ (b = false → ∀ j, j < k → ix zs j ≠ x)

set_option maxHeartbeats 1000000 in
theorem has_any (k c : Nat) (a : Option Addr) (zs : List Int) (x : Int) (w : World) (hr : Rd w a k zs) (hk : k ≤ 65536) : Calls Tryf.prog 20 #[.slice a k c, .int .i64 x] w fun e w' => Has zs k x e ∧ w' = w := by
  have HR : Hid (Rd w a k zs) := hr
  clear hr
  go_enter Tryf.func20, Tryf.ntmps20
  go_wp2
  go_loop [5] (fun vi => ∃ i : Nat, i ≤ k ∧ vi = .int .i64 i ∧ ∀ j, j < i → ix zs j ≠ x) (fun vi => k - (intOf vi).toNat)
  case atStart => exact ⟨0, by omega, rfl, fun j hj => by omega⟩
  case round =>
    obtain ⟨i, hi, rfl, hno⟩ := hrel
    by_cases hik : i < k
    · obtain ⟨b, rfl, hlt, hc⟩ := HR.out i hik
      have ci := hc i hik
      have HNO : Hid _ := hno
      clear hc hno HR
      by_cases hx : ix zs i = x
      · have hb : (ix zs i == x) = true := by simp [hx]
        have HX : Hid _ := hx
        clear hx
        go_wp2
        go_ret
        exact ⟨⟨true, rfl, fun _ => ⟨i, hik, HX.out⟩, fun h => (by cases h)⟩, rfl⟩
      · go_wp2
        go_round
        case rel => exact ⟨i + 1, by omega, by go_num, upto_succ HNO.out hx⟩
        case measure => simp [intOf]; omega
    · go_wp2
      go_ret
      exact ⟨⟨false, rfl, fun h => (by cases h), fun _ j hj => hno j (by omega)⟩, rfl⟩

/-- a slice of int slices that is read -/
def RdN (w : World) (a : Option Addr) (n : Nat) (rows : List (List Int)) : Prop :=
  ∀ i, i < n → ∃ g ai ci, a = some ⟨g, 0, none⟩ ∧ g < w.heap.size ∧ w.cell? ⟨g, i, none⟩ = some (.slice ai (lenOf rows i) ci) ∧ Rd w ai (lenOf rows i) (rowOf rows i) ∧ lenOf rows i ≤ 65536
theorem RdN.below {w w' : World} {a : Option Addr} {n : Nat} {rows : List (List Int)} (h : RdN w a n rows) (hb : Below w.heap.size w w') : RdN w' a n rows := by
  intro i hi
  obtain ⟨g, ai, ci, e, hlt, hc, hr, hl⟩ := h i hi
  exact ⟨g, ai, ci, e, Nat.lt_of_lt_of_le hlt hb.size, (hb.cell (p := ⟨g, i, none⟩) hlt).trans hc, hr.below hb, hl⟩

set_option maxRecDepth 100000 in
set_option maxHeartbeats 4000000 in
theorem same_any (n c c' : Nat) (a a' : Option Addr) (rows : List (List Int)) (w : World) (h1 : RdN w a n rows) (h2 : RdN w a' n rows) (hn : n ≤ 65536) : Calls Tryf.prog 10 #[.slice a n c, .slice a' n c'] w fun e w' => e = .returned (.bool true) ∧ Below w.heap.size w w' := by
  have H1 : Hid (RdN w a n rows) := h1
  have H2 : Hid (RdN w a' n rows) := h2
  clear h1 h2
  go_enter Tryf.func10, Tryf.ntmps10
  go_wp2
  go_loopw [5] (fun vi wr => ∃ i : Nat, i ≤ n ∧ vi = .int .i64 i ∧ Below w.heap.size w wr) (fun vi _ => n - (intOf vi).toNat)
  case atStart => exact ⟨0, by omega, rfl, Below.refl _ _⟩
  case round =>
    obtain ⟨i, hi, rfl, hb⟩ := hrel
    obtain ⟨wo, rfl⟩ : ∃ x : World, x = wr := ⟨_, rfl⟩
    by_cases hin : i < n
    · obtain ⟨g, ai, ci, rfl, hg, hc, hr, hl⟩ := (RdN.below H1.out hb) i hin
      obtain ⟨g', ai', ci', rfl, hg', hc', hr', _⟩ := (RdN.below H2.out hb) i hin
      have HB : Hid (Below w.heap.size w wo) := hb
      have HR : Hid (Rd wo ai (lenOf rows i) (rowOf rows i)) := hr
      have HR' : Hid (Rd wo ai' (lenOf rows i) (rowOf rows i)) := hr'
      have y1 : (0 : Int) ≤ (i : Int) := by omega
      have y2 : (i : Int) < (n : Int) := by omega
      clear hb hr hr'
      go_wp2
      go_quiet (fail)
      go_wp2
      go_loopw [6] (fun vj wr => ∃ j : Nat, j ≤ lenOf rows i ∧ vj = .int .i64 j ∧ Below wo.heap.size wo wr) (fun vj _ => lenOf rows i - (intOf vj).toNat)
      case atStart => exact ⟨0, by omega, rfl, bdrewN (Below.refl _ _) _⟩
      case round =>
        obtain ⟨j, hj, rfl, hbi⟩ := hrel
        obtain ⟨wi, rfl⟩ : ∃ x : World, x = wr := ⟨_, rfl⟩
        have d1 := (hbi.cell (p := ⟨g, i, none⟩) hg).trans hc
        have d2 := (hbi.cell (p := ⟨g', i, none⟩) hg').trans hc'
        have HBI : Hid (Below wo.heap.size wo wi) := hbi
        by_cases hjl : j < lenOf rows i
        · obtain ⟨b, rfl, _, hcj⟩ := (Rd.below HR.out hbi) j hjl
          obtain ⟨b', rfl, _, hcj'⟩ := (Rd.below HR'.out hbi) j hjl
          have e1 := hcj j hjl
          have e2 := hcj' j hjl
          have y3 : (0 : Int) ≤ (j : Int) := by omega
          have y4 : (j : Int) < (lenOf rows i : Int) := by omega
          clear hbi hcj hcj' hc hc'
          go_wp2
          go_quiet (fail)
          go_wp2
          go_roundw
          case rel => exact ⟨j + 1, by omega, by go_num, bdrewN HBI.out _⟩
          case measure => simp [intOf]; omega
        · clear hbi
          go_wp2
          go_roundw
          case rel => exact ⟨i + 1, by omega, by go_num, HB.out.trans (HBI.out.mono HB.out.size)⟩
          case measure => simp [intOf]; omega
    · go_wp2
      go_ret
      exact ⟨rfl, hb⟩
end Go.Proofs.Qxb6616309aFmt
