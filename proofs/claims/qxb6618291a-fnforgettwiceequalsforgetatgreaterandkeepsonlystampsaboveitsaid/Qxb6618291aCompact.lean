/-
  THE WALK of 'slices.CompactFunc' at a row of ranges.
-/
import Derived.Test.Qxb6618291aClone
import Derived.Test.Qxb6618291aClear
import Derived.Deep.RegionWith
import Derived.Deep.DeepCutAuto
namespace Go.Proofs.Qxb6618291a
open Go.RowKit

set_option maxRecDepth 100000 in
set_option maxHeartbeats 4000000 in
theorem compact_any (g n : Nat) (L : List Rng) (w : World) (hn : n ≤ 1048576) (hl : L.length = n) (hrow : w.rowIs g 36 (n * 2) (pcell L)) :
    Calls Try.prog 14 #[.slice (some ⟨g, 0, none⟩) n n, .func (.func 15) #[] #[]] w fun e w' => ∃ m : Nat, e = .returned (.slice (some ⟨g, 0, none⟩) m n) ∧ m = (cmpL L).length ∧ w'.rowIs g 36 (n * 2) (pcell (cmpL L)) ∧ Keep (· = g) w w' := by
  have HL : Hid (L.length = n) := hl
  clear hl
  by_cases h2 : n < 2
  · have hid : Hid (cmpL L = L) := by
      have := cmpL_id (L := L) (k := L.length) (Nat.le_refl _) (fun i a b => by have := HL.out; omega)
      rwa [List.take_length] at this
    go_enter Try.func14, Try.ntmps14
    go_wp2
    go_ret
    exact ⟨n, rfl, by rw [hid.out, HL.out], by rw [hid.out]; exact hrow, Keep.refl _ _⟩
  · have h2' : decide ((n : Int) < 2) = false := decide_eq_false (by omega)
    go_enter Try.func14, Try.ntmps14
    go_wp2
    go_loopw [5] (fun vk wr => ∃ k : Nat, 1 ≤ k ∧ k ≤ n ∧ vk = .int .i64 k ∧ Hid (∀ i, 0 < i → i < k → (L[i]?.getD dP).2 ≠ (L[i - 1]?.getD dP).2) ∧ wr.rowIs g 36 (n * 2) (pcell L) ∧ Keep (· = g) w wr) (fun vk _ => n - (intOf vk).toNat)
    case atStart => exact ⟨1, by omega, by omega, rfl, fun i a b => by omega, hrow, Keep.refl _ _⟩
    case round =>
      obtain ⟨k, hk1, hk, rfl, hne, hr, hkp⟩ := hrel
      by_cases hkn : k < n
      · have c1 := hr.cell (show k * 2 < n * 2 by omega)
        have c2 := hr.cell (show k * 2 + 1 < n * 2 by omega)
        have c3 := hr.cell (show (k - 1) * 2 < n * 2 by omega)
        have c4 := hr.cell (show (k - 1) * 2 + 1 < n * 2 by omega)
        rw [pcell_even] at c1 c3
        rw [pcell_odd] at c2 c4
        have b1 : (k : Int) - 1 < (n : Int) := by omega
        have b2 : (k : Int) < (n : Int) := by omega
        have b3 : (0 : Int) ≤ (k : Int) - 1 := by omega
        have b4 : ((k : Int) - 1).toNat = k - 1 := by omega
        have b5 : wrap64 ((k : Int) - 1) = (k : Int) - 1 := IntWalk.wrap64_in _ ⟨by omega, by omega⟩
        have b6 : IntKind.i64.wrap ((k : Int) - 1) = (k : Int) - 1 := by rw [IntKind.wrap_i64]; omega
        have b7 : ¬ (k : Int) - 1 < 0 := by omega
        have b8 : ¬ (n : Int) ≤ (k : Int) - 1 := by omega
        have hrA : ∀ o o', ((wr.alloc o).alloc o').drew.rowIs g 36 (n * 2) (pcell L) := fun o o' => ((hr.alloc o).alloc o').drew
        have hkA : ∀ o o', Keep (· = g) w ((wr.alloc o).alloc o').drew := fun o o' => ((hkp.alloc o).alloc o').drew
        by_cases hd : (L[k]?.getD dP).2 = (L[k - 1]?.getD dP).2
        · have hdb : ((L[k]?.getD dP).2 == (L[k - 1]?.getD dP).2) = true := by simp [hd]
          have hC1 : Hid (cmpL (L.take (k + 1)) = L.take k) := by
            have := cmpL_step (L := L) (k := k) (by omega) (by rw [HL.out]; exact hkn)
            rw [more_eq hd, List.append_nil, cmpL_id (by rw [HL.out]; exact hk) hne.out] at this
            exact this
          clear hd
          go_wp2
          go_cut [28] (fun v wc => v = .bool true ∧ wc = ((wr.alloc (.cells #[.string (L[k]?.getD dP).1, .int .u64 (L[k]?.getD dP).2] 36)).alloc (.cells #[.string (L[k - 1]?.getD dP).1, .int .u64 (L[k - 1]?.getD dP).2] 36)).drew)
          case first =>
            go_region_with (go_at_call 15; refine (read_any _ _ _ _ _).mono ?_; rintro e w2 ⟨rfl, rfl⟩)
            all_goals
              go_wp2
              go_meet
              case rel => exact ⟨rfl, rfl⟩
          case rest =>
          obtain ⟨rfl, rfl⟩ := hcut
          clear b1 b3 b4 b5 b6 b7 b8 c1 c2 c3 c4
          go_wp2
          have hr0 := hrA (.cells #[.string (L[k]?.getD dP).1, .int .u64 (L[k]?.getD dP).2] 36) (.cells #[.string (L[k - 1]?.getD dP).1, .int .u64 (L[k - 1]?.getD dP).2] 36)
          have hk0 := hkA (.cells #[.string (L[k]?.getD dP).1, .int .u64 (L[k]?.getD dP).2] 36) (.cells #[.string (L[k - 1]?.getD dP).1, .int .u64 (L[k - 1]?.getD dP).2] 36)
          clear hrA hkA hdb hne
          go_loopw [5, 7] (fun vk v2 wr => ∃ (j : Nat) (C : List Rng), 1 ≤ j ∧ j ≤ n - k ∧ v2 = .int .i64 j ∧ vk = .int .i64 C.length ∧ C.length < k + j ∧ Hid (C = cmpL (L.take (k + j))) ∧ wr.rowIs g 36 (n * 2) (pcell (mid C L)) ∧ Keep (· = g) w wr) (fun _ v2 _ => n - k - (intOf v2).toNat)
          case atStart =>
            have hlk : (L.take k).length = k := by rw [List.length_take, HL.out]; omega
            exact ⟨1, L.take k, by omega, by omega, rfl, by rw [hlk], by rw [hlk]; omega, hC1.out.symm, by rw [mid_take L k (by rw [HL.out]; exact hk)]; exact hr0, hk0⟩
          case round =>
            clear hr hkp hr0 hk0 hC1
            obtain ⟨j, C, hj1, hj, rfl, rfl, hCl, hC, hr, hkp⟩ := hrel
            by_cases hjn : j < n - k
            · have hx := hr.cell (show (k + j) * 2 < n * 2 by omega)
              have hx' := hr.cell (show (k + j) * 2 + 1 < n * 2 by omega)
              have hy := hr.cell (show (k + j - 1) * 2 < n * 2 by omega)
              have hy' := hr.cell (show (k + j - 1) * 2 + 1 < n * 2 by omega)
              rw [pcell_even, mid_ge (by omega)] at hx hy
              rw [pcell_odd, mid_ge (by omega)] at hx' hy'
              rw [show (k + j) * 2 = k * 2 + j * 2 from by omega] at hx hx'
              rw [show (k + j - 1) * 2 = k * 2 + (j - 1) * 2 from by omega] at hy hy'
              have hstep := cmpL_step (L := L) (k := k + j) (by omega) (by rw [HL.out]; omega)
              have t1 := hr.cell (show C.length * 2 < n * 2 by omega)
              have t2 := hr.cell (show C.length * 2 + 1 < n * 2 by omega)
              have z1 := hr.frozen (C.length * 2)
              have z2 := hr.frozen (C.length * 2 + 1)
              have b1 : (j : Int) - 1 < ((n - k : Nat) : Int) := by omega
              have b2 : (j : Int) < ((n - k : Nat) : Int) := by omega
              have b3 : (0 : Int) ≤ (j : Int) - 1 := by omega
              have b4 : ((j : Int) - 1).toNat = j - 1 := by omega
              have b5 : wrap64 ((j : Int) - 1) = (j : Int) - 1 := IntWalk.wrap64_in _ ⟨by omega, by omega⟩
              have b6 : IntKind.i64.wrap ((j : Int) - 1) = (j : Int) - 1 := by rw [IntKind.wrap_i64]; omega
              generalize L[k + j]?.getD dP = x at hx hx' hstep
              generalize L[k + j - 1]?.getD dP = y at hy hy' hstep
              have HST : Hid (cmpL (L.take (k + j + 1)) = cmpL (L.take (k + j)) ++ more x y.2) := hstep
              clear hstep
              have hrA : ∀ o o', ((wr.alloc o).alloc o').drew.rowIs g 36 (n * 2) (pcell (mid C L)) := fun o o' => ((hr.alloc o).alloc o').drew
              have hkA : ∀ o o', Keep (· = g) w ((wr.alloc o).alloc o').drew := fun o o' => ((hkp.alloc o).alloc o').drew
              have hlt := hr.lt
              by_cases hd : x.2 = y.2
              · have hdb : (x.2 == y.2) = true := by simp [hd]
                have hC' : Hid (C = cmpL (L.take (k + (j + 1)))) := by
                  show C = cmpL (L.take (k + (j + 1)))
                  rw [show k + (j + 1) = k + j + 1 from by omega, HST.out, more_eq hd, List.append_nil]; exact hC.out
                clear hd HST
                go_wp2
                go_cut [49] (fun v wc => v = .bool false ∧ wc = ((wr.alloc (.cells #[.string x.1, .int .u64 x.2] 36)).alloc (.cells #[.string y.1, .int .u64 y.2] 36)).drew)
                case first =>
                  go_region_with (go_at_call 15; refine (read_any _ _ _ _ _).mono ?_; rintro e w2 ⟨rfl, rfl⟩)
                  all_goals
                    go_wp2
                    go_meet
                    case rel => exact ⟨rfl, rfl⟩
                case rest =>
                obtain ⟨rfl, rfl⟩ := hcut
                clear b1 b3 b4 b5 b6 hy hy'
                go_wp2
                go_roundw
                case rel => exact ⟨j + 1, C, by omega, by omega, by go_num, rfl, by omega, hC', hrA _ _, hkA _ _⟩
                case measure => simp [intOf]; omega
              · have hdb : (x.2 == y.2) = false := by simpa using hd
                have hC' : Hid (C ++ [x] = cmpL (L.take (k + (j + 1)))) := by
                  show C ++ [x] = cmpL (L.take (k + (j + 1)))
                  rw [show k + (j + 1) = k + j + 1 from by omega, HST.out, more_ne hd, ← hC.out]
                have hrB : ∀ o o', ((((wr.setCell ⟨g, C.length * 2, none⟩ (.string x.1)).setCell ⟨g, C.length * 2 + 1, none⟩ (.int .u64 x.2)).alloc o).alloc o').drew.rowIs g 36 (n * 2) (pcell (mid (C ++ [x]) L)) := fun o o' => (((row_put hr x).alloc o).alloc o').drew
                have hkB : ∀ o o', Keep (· = g) w ((((wr.setCell ⟨g, C.length * 2, none⟩ (.string x.1)).setCell ⟨g, C.length * 2 + 1, none⟩ (.int .u64 x.2)).alloc o).alloc o').drew := fun o o' => ((((hkp.setCell (a := ⟨g, C.length * 2, none⟩) (Or.inl rfl) _).setCell (a := ⟨g, C.length * 2 + 1, none⟩) (Or.inl rfl) _).alloc o).alloc o').drew
                have hCn : C.length < n := by omega
                have hlen : Hid ((C ++ [x]).length = C.length + 1) := by simp [Hid]
                clear hd HST hrA hkA
                go_wp2
                go_cut [49] (fun v wc => v = .bool true ∧ wc = ((wr.alloc (.cells #[.string x.1, .int .u64 x.2] 36)).alloc (.cells #[.string y.1, .int .u64 y.2] 36)).drew)
                case first =>
                  go_region_with (go_at_call 15; refine (read_any _ _ _ _ _).mono ?_; rintro e w2 ⟨rfl, rfl⟩)
                  all_goals
                    go_wp2
                    go_meet
                    case rel => exact ⟨rfl, rfl⟩
                case rest =>
                obtain ⟨rfl, rfl⟩ := hcut
                clear b1 b3 b4 b5 b6 hy hy'
                go_wp2
                go_roundw
                case rel => exact ⟨j + 1, C ++ [x], by omega, by omega, by go_num, by rw [hlen.out]; go_num, by rw [hlen.out]; omega, hC', hrB _ _, hkB _ _⟩
                case measure => simp [intOf]; omega
            · have hfin : Hid (C = cmpL L) := by
                show C = cmpL L
                rw [hC.out, List.take_of_length_le (by rw [HL.out]; omega)]
              have hCn : C.length < n := by omega
              have hclr := fun ty => run_clear_ranges hr (C.length * 2) (n - C.length) (n - C.length) (by omega) (by omega) ty
              have hrow' : (wr.setCells g (C.length * 2) (zcells (n - C.length))).rowIs g 36 (n * 2) (pcell (cmpL L)) := by
                have := row_cleared hr C.length (by omega) (by rw [length_mid (by rw [HL.out]; omega), HL.out]; omega)
                rw [mid_full] at this
                rw [← hfin.out]; exact this
              have hkp' := keep_setCells hkp (b := g) rfl (zcells (n - C.length)) (C.length * 2)
              go_wp2
              go_ret
              refine ⟨C.length, rfl, by rw [hfin.out], hrow', hkp'⟩
        · have hdb : ((L[k]?.getD dP).2 == (L[k - 1]?.getD dP).2) = false := by simpa using hd
          have hne' : Hid (∀ i, 0 < i → i < k + 1 → (L[i]?.getD dP).2 ≠ (L[i - 1]?.getD dP).2) := by
            intro i h0 hi
            by_cases e : i = k
            · rw [e]; exact hd
            · exact hne.out i h0 (by omega)
          clear hd hne
          go_wp2
          go_cut [28] (fun v wc => v = .bool false ∧ wc = ((wr.alloc (.cells #[.string (L[k]?.getD dP).1, .int .u64 (L[k]?.getD dP).2] 36)).alloc (.cells #[.string (L[k - 1]?.getD dP).1, .int .u64 (L[k - 1]?.getD dP).2] 36)).drew)
          case first =>
            go_region_with (go_at_call 15; refine (read_any _ _ _ _ _).mono ?_; rintro e w2 ⟨rfl, rfl⟩)
            all_goals
              go_wp2
              go_meet
              case rel => exact ⟨rfl, rfl⟩
          case rest =>
          obtain ⟨rfl, rfl⟩ := hcut
          clear b1 b3 b4 b5 b6 b7 b8 c1 c2 c3 c4
          go_wp2
          go_roundw
          case rel => exact ⟨k + 1, by omega, by omega, by go_num, hne', hrA _ _, hkA _ _⟩
          case measure => simp [intOf]; omega
      · have hid : Hid (cmpL L = L) := by
          have := cmpL_id (L := L) (k := L.length) (Nat.le_refl _) (fun i a b => hne.out i a (by have := HL.out; omega))
          rwa [List.take_length] at this
        clear hne
        go_wp2
        go_ret
        exact ⟨n, rfl, by rw [hid.out, HL.out], by rw [hid.out]; exact hr, hkp⟩

end Go.Proofs.Qxb6618291a
