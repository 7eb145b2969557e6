/-
  THE WALK of 'FnVerdictLinesOfOneCheck'.
-/
import Derived.Test.Qxb6616309aWalks
namespace Go.Proofs.Qxb6616309a
open Go.RowKit

set_option maxRecDepth 100000 in
set_option maxHeartbeats 1000000 in
theorem law_any (nm f g : ByteArray) (w : World) :
    Calls Try.prog 3 #[.string nm, .string f, .string g] w fun e w' => e = .returned (.bool true) ∧ Grown w w' := by
  go_enter Try.func3, Try.ntmps3
  go_wp2_with fail
  refine (bytes_any nm f g w).mono ?_
  rintro e w1 ⟨r, rfl, rfl⟩
  cases r
  · go_wp2
    go_ret
    exact ⟨rfl, Grown.refl _⟩
  by_cases hsz : nm.size ≤ 1048576 ∧ f.size ≤ 1048576 ∧ g.size ≤ 1048576 ∧ nm.size + f.size + g.size ≤ 1048576
  case neg =>
    go_wp2_with fail
    all_goals
      go_ret
      exact ⟨rfl, Grown.refl _⟩
  obtain ⟨s0, s1, s2, s3⟩ := hsz
  go_wp2_with fail
  refine (verdict_any nm f w).mono ?_
  rintro e w1 ⟨rfl, rfl⟩
  go_wp2_with fail
  refine (verdict_any nm g _).mono ?_
  rintro e w1 ⟨rfl, rfl⟩
  go_wp2_with fail
  refine (name_any nm _).mono ?_
  rintro e w1 ⟨rfl, rfl⟩
  go_wp2_with fail
  refine (string_any nm f _ s0 s1).mono ?_
  rintro e w1 ⟨rfl, rfl⟩
  go_wp2_with fail
  refine (string_any nm g _ s0 s2).mono ?_
  rintro e w1 ⟨rfl, rfl⟩
  have z1 := vline_size nm f
  have z2 := vline_size nm g
  have y1 : (vline nm f).size ≤ 4194304 := by rw [z1]; split <;> omega
  have y2 : (vline nm g).size ≤ 4194304 := by rw [z2]; split <;> omega
  have Z1 : Hid ((vline nm f).size = if f.toList.isEmpty = true then nm.size + 4 else nm.size + 9 + f.size) := z1
  have Z2 : Hid ((vline nm g).size = if g.toList.isEmpty = true then nm.size + 4 else nm.size + 9 + g.size) := z2
  clear z1 z2
  have P1 := vline_pre nm f
  have P2 := vline_pre nm g
  have P1' : Hid ((nm ++ colon).size ≤ (vline nm f).size ∧ (vline nm f).extract 0 (nm ++ colon).size = nm ++ colon) := P1
  have P2' : Hid ((nm ++ colon).size ≤ (vline nm g).size ∧ (vline nm g).extract 0 (nm ++ colon).size = nm ++ colon) := P2
  clear P1 P2
  go_wp2_with fail
  refine (prefix_any (vline nm f) (nm ++ colon) _ y1 P1'.out.1 P1'.out.2).mono ?_
  rintro e w1 ⟨rfl, rfl⟩
  go_wp2_with fail
  refine (prefix_any (vline nm g) (nm ++ colon) _ y2 P2'.out.1 P2'.out.2).mono ?_
  rintro e w1 ⟨rfl, rfl⟩
  by_cases hfg : f = g
  · subst hfg
    cases h1 : f.toList.isEmpty
    all_goals
      go_wp2
      go_ret
      refine ⟨rfl, ?_⟩
      repeat (with_reducible apply Grown.alloc)
      exact Grown.refl _
  · have hcmp := line_ne (nm := nm) hfg
    obtain ⟨q1, q2⟩ := hcmp
    clear hfg
    cases h1 : f.toList.isEmpty <;> cases h2 : g.toList.isEmpty
    case' false.true =>
      have hlt : (vline nm g).size < (vline nm f).size := by
        have a := Z1.out
        have b := Z2.out
        rw [h1] at a
        rw [h2] at b
        simp at a b
        omega
    case' true.false =>
      have hlt : (vline nm f).size < (vline nm g).size := by
        have a := Z1.out
        have b := Z2.out
        rw [h1] at a
        rw [h2] at b
        simp at a b
        omega
    all_goals
      go_wp2
      go_ret
      refine ⟨rfl, ?_⟩
      repeat (with_reducible apply Grown.alloc)
      exact Grown.refl _

end Go.Proofs.Qxb6616309a
