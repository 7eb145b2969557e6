/-
  THE WALK of 'slices.Delete(s, 0, 1)' at a row of ranges.
-/
import Derived.Test.Qxb6618291aClear
import Derived.Deep.RegionLaw
namespace Go.Proofs.Qxb6618291a
open Go.RowKit

/-- Clearing m' ranges from the k-th on, where none lies behind them. -/
theorem row_cleared' {w : World} {g n : Nat} {L : List Rng} (hr : w.rowIs g 36 (n * 2) (pcell L)) (k m' : Nat) (_hk : k + m' ≤ n) (hl : k ≤ L.length) (hL : L.length ≤ k + m') : (w.setCells g (k * 2) (zcells m')).rowIs g 36 (n * 2) (pcell (L.take k)) := by
  refine (row_setCells (zcells m') (k * 2) hr).congr fun i hi => ?_
  rw [length_zcells]
  by_cases h : k * 2 ≤ i
  · rw [pcell_past (L := L.take k) (by rw [List.length_take]; omega)]
    by_cases h2 : i < k * 2 + m' * 2
    · rw [if_pos ⟨h, h2⟩, zcells_get _ _ (by omega), show (i - k * 2) % 2 = i % 2 from by omega]
      rfl
    · rw [if_neg (by omega), pcell_past (by omega)]
  · rw [if_neg (by omega)]
    apply pcell_congr
    rw [List.getElem?_take_of_lt (by omega)]

/-- The cells of all but the first range. -/
def tcells (L : List Rng) (m : Nat) : List Value := (List.range ((m - 1) * 2)).map fun j => pcell L (2 + j)
theorem length_tcells (L : List Rng) (m : Nat) : (tcells L m).length = (m - 1) * 2 := by simp [tcells]
theorem tcells_get (L : List Rng) (m j : Nat) (h : j < (m - 1) * 2) : (tcells L m)[j]? = some (pcell L (2 + j)) := by simp [tcells, h]
theorem pcell_one (L : List Rng) (i : Nat) : (pcell L i).oneCell' = true := by unfold pcell; split <;> rfl
theorem tcells_one (L : List Rng) (m : Nat) : ∀ u ∈ tcells L m, u.oneCell' = true := by
  intro u hu
  unfold tcells at hu
  obtain ⟨j, _, rfl⟩ := List.mem_map.1 hu
  exact pcell_one L _

/-- The list behind the append: all but the first, and the last once more. -/
def shifted (L : List Rng) : List Rng := L.tail ++ [L[L.length - 1]?.getD dP]
theorem shifted_get {L : List Rng} (h : 0 < L.length) (i : Nat) : (shifted L)[i]?.getD dP = if i < L.length - 1 then L[i + 1]?.getD dP else L[i]?.getD dP := by
  unfold shifted
  by_cases h1 : i < L.length - 1
  · rw [if_pos h1, List.getElem?_append_left (by simp; omega), List.getElem?_tail]
  · rw [if_neg h1, List.getElem?_append_right (by simp; omega), List.length_tail]
    by_cases h2 : i = L.length - 1
    · subst h2; simp
    · rw [List.getElem?_eq_none (by simp; omega), List.getElem?_eq_none (l := L) (by omega)]
theorem row_shifted {w : World} {g n m : Nat} {L : List Rng} (hr : w.rowIs g 36 (n * 2) (pcell L)) (hl : L.length = m) (h0 : 0 < m) : (w.setCells g 0 (tcells L m)).rowIs g 36 (n * 2) (pcell (shifted L)) := by
  refine (row_setCells (tcells L m) 0 hr).congr fun i hi => ?_
  rw [length_tcells]
  by_cases h : i < (m - 1) * 2
  · rw [if_pos ⟨Nat.zero_le _, by omega⟩, Nat.sub_zero, tcells_get _ _ _ h]
    show pcell L (2 + i) = pcell (shifted L) i
    unfold pcell
    rw [show (2 + i) % 2 = i % 2 from by omega, show (2 + i) / 2 = i / 2 + 1 from by omega]
    have e : (shifted L)[i / 2]?.getD dP = L[i / 2 + 1]?.getD dP := by rw [shifted_get (by omega), if_pos (by omega)]
    rw [e]
  · rw [if_neg (by omega)]
    apply pcell_congr
    rw [shifted_get (by omega), if_neg (by omega)]
theorem take_shifted (L : List Rng) : (shifted L).take (L.length - 1) = L.tail := by
  unfold shifted
  rw [List.take_append_of_le_length (by simp)]
  exact List.take_of_length_le (by simp)
theorem length_shifted {L : List Rng} (h : 0 < L.length) : (shifted L).length = L.length := by unfold shifted; simp; omega

set_option maxRecDepth 100000 in
set_option maxHeartbeats 1000000 in
theorem delete_any (g n m : Nat) (L : List Rng) (w : World) (hn : n ≤ 1048576) (hl : L.length = m) (h0 : 0 < m) (hm : m ≤ n) (hrow : w.rowIs g 36 (n * 2) (pcell L)) :
    Calls Try.prog 16 #[.slice (some ⟨g, 0, none⟩) m n, .int .i64 0, .int .i64 1] w fun e w' => e = .returned (.slice (some ⟨g, 0, none⟩) (m - 1) n) ∧ w'.rowIs g 36 (n * 2) (pcell L.tail) ∧ Keep (· = g) w w' := by
  obtain ⟨i0, hi0, hzz⟩ := Option.map_eq_some_iff.1 Try.info36
  simp only [Prod.mk.injEq] at hzz
  obtain ⟨_, hz1, _⟩ := hzz
  have s1 : Hid ((tcells L m).length = (m - 1) * 2) := length_tcells L m
  have s2 : Hid (∀ u ∈ tcells L m, u.oneCell' = true) := tcells_one L m
  have s3 : Hid (∀ j, j < (tcells L m).length → (w.cell? ⟨g, 0 + 0 * 2 + j, none⟩).isSome = true ∧ w.frozen? ⟨g, 0 + 0 * 2 + j, none⟩ = false) := by
    intro j hj
    rw [length_tcells] at hj
    rw [hrow.cell (i := 0 + 0 * 2 + j) (by omega)]
    exact ⟨rfl, hrow.frozen _⟩
  have R1 : (w.drew.setCells g 0 (tcells L m)).rowIs g 36 (n * 2) (pcell (shifted L)) := row_shifted hrow.drew hl h0
  have K1 : Keep (· = g) w (w.drew.setCells g 0 (tcells L m)) := keep_setCells (S := (· = g)) (Keep.refl _ _).drew (b := g) rfl _ _
  have R2 : ((w.drew.setCells g 0 (tcells L m)).setCells g ((m - 1) * 2) (zcells (m - (m - 1)))).rowIs g 36 (n * 2) (pcell L.tail) := by
    have := row_cleared' R1 (m - 1) (m - (m - 1)) (by omega) (by rw [length_shifted (by omega)]; omega) (by rw [length_shifted (by omega)]; omega)
    rw [← take_shifted, hl]; exact this
  have K2 : Keep (· = g) w ((w.drew.setCells g 0 (tcells L m)).setCells g ((m - 1) * 2) (zcells (m - (m - 1)))) := keep_setCells K1 (b := g) rfl _ _
  have hclr := fun c ty => run_clear_ranges R1 ((m - 1) * 2) (m - (m - 1)) c (by omega) (by omega) ty
  have hm1 : m - 1 < m := by omega
  have HR2 : Hid (((w.drew.setCells g 0 (tcells L m)).setCells g ((m - 1) * 2) (zcells (m - (m - 1)))).rowIs g 36 (n * 2) (pcell L.tail)) := R2
  have HK2 : Hid (Keep (· = g) w ((w.drew.setCells g 0 (tcells L m)).setCells g ((m - 1) * 2) (zcells (m - (m - 1))))) := K2
  clear R1 K1 R2 K2
  have HL : Hid (L.length = m) := hl
  clear hl
  by_cases hn1 : 1 < n
  · have hnews : Hid (∀ j u, (tcells L m)[j]? = some u → w.cell? ((⟨g, 2, none⟩ : Addr).add j) = some u) := by
      intro j u hj
      have hjl : j < (m - 1) * 2 := by
        have := (List.getElem?_eq_some_iff.1 hj).1
        rwa [length_tcells] at this
      rw [tcells_get _ _ _ hjl] at hj
      rw [WideShapes.add_plain, hrow.cell (by omega)]
      exact hj
    clear hrow
    have hp : (1 : Int) ≤ (m : Int) := by omega
    have hnn : ¬ n = 1 := by omega
    go_enter Try.func16, Try.ntmps16
    go_wp2
    go_region_law (refine step_append_room rfl (.tmp 22) (.tmp 25) 34 rfl 36 i0 2 Try.underlying34 hi0 hz1 g 0 0 n (by simp [Act.eval, Act.put]) ⟨g, 2, none⟩ (m - 1) (n - 1) (tcells L m) (by simp [Act.eval, Act.put]) s1.out hnews.out s2.out (by omega) s3.out ?_)
    go_wp2
    go_ret
    exact ⟨rfl, HR2.out, HK2.out⟩
  · obtain rfl : n = 1 := by omega
    obtain rfl : m = 1 := by omega
    have hnews : Hid (∀ j u, (tcells L 1)[j]? = some u → w.cell? ((⟨g, 0, none⟩ : Addr).add j) = some u) := by
      intro j u hj
      have := (List.getElem?_eq_some_iff.1 hj).1
      rw [length_tcells] at this
      omega
    clear hrow
    go_enter Try.func16, Try.ntmps16
    go_wp2
    go_region_law (refine step_append_room rfl (.tmp 22) (.tmp 25) 34 rfl 36 i0 2 Try.underlying34 hi0 hz1 g 0 0 1 (by simp [Act.eval, Act.put]) ⟨g, 0, none⟩ (1 - 1) (1 - 1) (tcells L 1) (by simp [Act.eval, Act.put]) s1.out hnews.out s2.out (by omega) s3.out ?_)
    simp only [show (1 - 1) * 2 = 0 from rfl, show 1 - (1 - 1) = 1 from rfl] at hclr
    go_wp2
    go_ret
    exact ⟨rfl, HR2.out, HK2.out⟩

end Go.Proofs.Qxb6618291a
