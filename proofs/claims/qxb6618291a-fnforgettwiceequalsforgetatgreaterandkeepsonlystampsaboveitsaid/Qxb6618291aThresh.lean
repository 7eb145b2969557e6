/-
  THE WALK of 'isThresholdedRanges' at what 'forget' leaves.
-/
import Derived.Test.Qxb6618291aZZ
namespace Go.Proofs.Qxb6618291a
open Go.RowKit

theorem strs_cell {w : World} {a : Option Addr} {n : Nat} {L : List Rng} (h : Strs w a n (L.map (·.1))) {i : Nat} (hi : i < n) : ∃ b off, a = some ⟨b, off, none⟩ ∧ b < w.heap.size ∧ ∀ j, j < n → w.cell? ⟨b, off + j, none⟩ = some (.string (L[j]?.getD dP).1) := by
  obtain ⟨b, off, e, hlt, hc⟩ := h.2 i hi
  refine ⟨b, off, e, hlt, fun j hj => ?_⟩
  have hl := h.1
  rw [List.length_map] at hl
  have hj' : j < L.length := by omega
  rw [hc j hj]; simp [hj']
theorem ints_cell {w : World} {a : Option Addr} {n : Nat} {L : List Rng} (h : Ints .u64 w a n (L.map (·.2))) {i : Nat} (hi : i < n) : ∃ b off, a = some ⟨b, off, none⟩ ∧ b < w.heap.size ∧ ∀ j, j < n → w.cell? ⟨b, off + j, none⟩ = some (.int .u64 (L[j]?.getD dP).2) := by
  obtain ⟨b, off, e, hlt, hc⟩ := h.2 i hi
  refine ⟨b, off, e, hlt, fun j hj => ?_⟩
  have hl := h.1
  rw [List.length_map] at hl
  have hj' : j < L.length := by omega
  rw [hc j hj]; simp [hj']

/-- The places found so far. -/
def Found (M : List Rng) (n k : Nat) (I : Nat → Nat) : Prop := ∀ k', k' < k → I k' < n ∧ cnt M (I k') = k' ∧ cnt M (I k' + 1) = k' + 1
theorem found_put {M : List Rng} {n k : Nat} {I : Nat → Nat} (h : Found M n k I) {j : Nat} (hj : j < n) (h1 : cnt M j = k) (h2 : cnt M (j + 1) = k + 1) : Found M n (k + 1) (fun i => if i = k then j else I i) := by
  intro k' hk
  by_cases e : k' = k
  · subst e; simp only [if_pos]; exact ⟨hj, h1, h2⟩
  · simp only [if_neg e]; exact h k' (by omega)
/-- A place is at or before i just where its number is below the count of the first i + 1. -/
theorem found_le {M : List Rng} {n q : Nat} {I : Nat → Nat} (h : Found M n q I) (hM : M.length = n) {c i : Nat} (hc : c < q) (hi : i < n) : I c ≤ i ↔ c < cnt M (i + 1) := by
  obtain ⟨h0, h1, h2⟩ := h c hc
  constructor
  · intro hle
    have := cnt_mono (M := M) (i := I c + 1) (j := i + 1) (by omega) (by omega)
    omega
  · intro hlt
    rcases Nat.lt_or_ge i (I c) with hh | hh
    · have := cnt_mono (M := M) (i := i + 1) (j := I c) (by omega) (by omega)
      omega
    · exact hh

/-- The bound at place j is not the k-th that is kept: it is passed over. -/
theorem pass_over {L : List Rng} {m : Int} {j k : Nat} (hj : j < L.length) (hc : cnt (cutL m L) j = k) (hne : ¬ (L[j]?.getD dP).1 = ((cmpF 0 (cutL m L))[k]?.getD dP).1) : cnt (cutL m L) (j + 1) = k := by
  have hjM : j < (cutL m L).length := by rw [length_cutL]; exact hj
  rcases Nat.eq_or_lt_of_le (cnt_mono (M := cutL m L) (i := j) (j := j + 1) (by omega) (by omega)) with h | h
  · omega
  · have e := kept_at hjM (by omega)
    rw [hc] at e
    exfalso
    apply hne
    rw [e, cutL_get m L hj]
/-- The bound at place j is the k-th that is kept: j is its place. -/
theorem found_here {L : List Rng} {m : Int} (hu : Up L) {j k : Nat} (hj : j < L.length) (hc : cnt (cutL m L) j = k) (hk : k < (cmpF 0 (cutL m L)).length) (e : (L[j]?.getD dP).1 = ((cmpF 0 (cutL m L))[k]?.getD dP).1) : cnt (cutL m L) (j + 1) = k + 1 := by
  obtain ⟨i, h1, h2, h3, h4⟩ := kept_further (M := cutL m L) (j := j) (by rw [length_cutL]; omega) hc hk
  rw [length_cutL] at h2
  have e2 := kept_at (M := cutL m L) (i := i) (by rw [length_cutL]; exact h2) (by omega)
  rw [h3, cutL_get m L h2] at e2
  have : j = i := up_inj hu hj h2 (by rw [e, e2])
  rw [this]; exact h4

set_option maxRecDepth 100000 in
set_option maxHeartbeats 4000000 in
theorem thresh_any (a0 a1 a2 a3 : Option Addr) (n q c0 c1 c2 c3 : Nat) (L G : List Rng) (m : Int) (key : ByteArray) (w : World) (hn : n ≤ 1048576) (hl : L.length = n) (hm : 0 ≤ m) (hu : Up L) (hG : G = forgetL m L) (hq : G.length = q)
    (h0 : Strs w a0 n (L.map (·.1))) (h1 : Ints .u64 w a1 n (L.map (·.2))) (h2 : Strs w a2 q (G.map (·.1))) (h3 : Ints .u64 w a3 q (G.map (·.2))) :
    Calls Try.prog 10 #[.slice a0 n c0, .slice a1 n c1, .int .u64 m, .string key, .slice a2 q c2, .slice a3 q c3] w fun e w' => e = .returned (.bool true) ∧ Below w.heap.size w w' := by
  have HL : Hid (L.length = n) := hl
  have HQ : Hid (G.length = q) := hq
  have HGF : Hid (G = cmpF 0 (cutL m L)) := by rw [hG]; exact forgetL_eq m L
  have HG : Hid (G = forgetL m L) := hG
  have hqn : q ≤ n := by rw [← hq, ← hl, hG]; exact forgetL_length m L
  have HU : Hid (Up L) := hu
  clear hl hq hG hu
  go_enter Try.func10, Try.ntmps10
  go_wp2
  go_loopw [13] (fun vk wr => ∃ k : Nat, k ≤ q ∧ vk = .int .i64 k ∧ Below w.heap.size w wr) (fun vk _ => q - (intOf vk).toNat)
  case atStart => exact ⟨0, by omega, rfl, Below.refl _ _⟩
  case round =>
    obtain ⟨k, hk, rfl, hbr⟩ := hrel
    by_cases hkq : k < q
    · obtain ⟨b, off, rfl, _, hc⟩ := ints_cell (h3.below hbr) hkq
      have f1 := hc k hkq
      have f2 := hc (k - 1) (by omega)
      have hab := cmpF_above (L := L) (m := m) k (by rw [← HGF.out, HQ.out]; exact hkq)
      rw [← HGF.out] at hab
      have hnz : Hid ((G[k]?.getD dP).2 = 0 ∨ m < (G[k]?.getD dP).2) := hab
      clear hab
      have hbq : ∀ nq, Below w.heap.size w (wr.drewN nq) := fun nq => below_drewN hbr nq
      by_cases hk0 : k = 0
      · have hf := cmpF_first 0 (cutL m L) (by rw [← HGF.out, HQ.out]; omega)
        rw [← HGF.out] at hf
        have hfb : ((G[0]?.getD dP).2 == 0) = false := by simpa using hf
        have hk0b : ((k : Int) == 0) = true := by simp [hk0]
        have f0 := hc 0 (by omega)
        rw [Nat.add_zero] at f0
        have hmlt : m < (G[k]?.getD dP).2 := by rcases hnz.out with h | h; (rw [hk0] at h; exact absurd h hf); exact h
        have hnb : ((G[k]?.getD dP).2 != 0) = true := by rw [bne_iff_ne]; rw [hk0]; exact hf
        clear hf hc hk0 f2
        go_wp2
        go_roundw
        case rel => exact ⟨k + 1, by omega, by go_num, hbr⟩
        case measure => simp [intOf]; omega
      · have hf := cmpF_neigh 0 (cutL m L) k (by omega) (by rw [← HGF.out, HQ.out]; exact hkq)
        rw [← HGF.out] at hf
        have hfb : ((G[k]?.getD dP).2 == (G[k - 1]?.getD dP).2) = false := by simpa using hf
        have hk0b : ((k : Int) == 0) = false := by rw [beq_eq_false_iff_ne]; omega
        clear hf hc
        rcases hnz.out with hz | hz
        · have hnb : ((G[k]?.getD dP).2 != 0) = false := by simp [hz]
          clear hz
          go_wp2
          go_quiet (fail)
          go_wp2
          go_roundw
          case rel => exact ⟨k + 1, by omega, by go_num, hbq _⟩
          case measure => simp [intOf]; omega
        · have hnb : ((G[k]?.getD dP).2 != 0) = true := by rw [bne_iff_ne]; omega
          go_wp2
          go_quiet (fail)
          go_wp2
          go_roundw
          case rel => exact ⟨k + 1, by omega, by go_num, hbq _⟩
          case measure => simp [intOf]; omega
    · obtain ⟨w1, rfl⟩ : ∃ x : World, x = wr := ⟨_, rfl⟩
      have hmk := make38 q (by omega)
      have m0 : (w1.alloc (.cells (madeCells #[.int .i64 0] q) 3)).rowIs w1.heap.size 3 q (fun i => .int .i64 (((fun _ => 0 : Nat → Nat) i : Nat) : Int)) := World.rowIs_made w1 (.int .i64 0) q 3
      have M0 : Hid ((w1.alloc (.cells (madeCells #[.int .i64 0] q) 3)).rowIs w1.heap.size 3 q (fun i => .int .i64 (((fun _ => 0 : Nat → Nat) i : Nat) : Int))) := m0
      clear m0
      go_wp2
      go_loopw [15, 16] (fun vj vk wr => ∃ (k j : Nat) (I : Nat → Nat), k ≤ q ∧ j ≤ n ∧ vk = .int .i64 k ∧ vj = .int .i64 j ∧ Hid (cnt (cutL m L) j = k) ∧ Hid (Found (cutL m L) n k I) ∧ Hid (wr.rowIs w1.heap.size 3 q (fun i => .int .i64 (I i : Nat))) ∧ Below w1.heap.size w1 wr) (fun _ vk _ => q - (intOf vk).toNat)
      case atStart => exact ⟨0, 0, fun _ => 0, by omega, by omega, rfl, rfl, cnt_zero _, fun k' h => by omega, M0.out, (Below.refl _ _).alloc (Nat.le_refl _) _⟩
      case round =>
        clear M0 hmk hkq hk
        obtain ⟨k, j, I, hk, hj, rfl, rfl, hcj, hfo, hrow, hb1⟩ := hrel
        obtain ⟨wo, rfl⟩ : ∃ x : World, x = wr := ⟨_, rfl⟩
        by_cases hkq : k < q
        · go_wp2
          go_loopw [15] (fun vj wr => ∃ j : Nat, j ≤ n ∧ vj = .int .i64 j ∧ Hid (cnt (cutL m L) j = k) ∧ Hid (wr.rowIs w1.heap.size 3 q (fun i => .int .i64 (I i : Nat))) ∧ Below w1.heap.size w1 wr) (fun vj _ => n - (intOf vj).toNat)
          case atStart => exact ⟨j, hj, rfl, hcj, hrow, hb1⟩
          case round =>
            clear hcj hrow hb1 hj
            obtain ⟨j, hj, rfl, hcj, hrow, hb1⟩ := hrel
            have hbw : Below w.heap.size w wr := hbr.trans (hb1.mono hbr.size)
            have hjn : j < n := by
              rcases Nat.lt_or_ge j n with h | h
              · exact h
              · have e := cnt_all (cutL m L)
                rw [length_cutL, HL.out, ← HGF.out, HQ.out, ← show j = n from by omega, hcj.out] at e
                omega
            obtain ⟨b0, o0, rfl, _, hcF⟩ := strs_cell (h0.below hbw) hjn
            obtain ⟨b2, o2, rfl, _, hcG⟩ := strs_cell (h2.below hbw) hkq
            have f1 := hcF j hjn
            have f2 := hcG k hkq
            have hrq : ∀ nq, (wr.drewN nq).rowIs w1.heap.size 3 q (fun i => .int .i64 (I i : Nat)) := fun nq => row_drewN hrow.out nq
            have HRQ : Hid (∀ nq, (wr.drewN nq).rowIs w1.heap.size 3 q (fun i => .int .i64 (I i : Nat))) := hrq
            have hbq : ∀ nq, Below w1.heap.size w1 (wr.drewN nq) := fun nq => below_drewN hb1 nq
            have b1 : (j : Int) < (n : Int) := by omega
            clear hcF hcG hrq
            by_cases he : (L[j]?.getD dP).1 = (G[k]?.getD dP).1
            · have heb : ((L[j]?.getD dP).1.toList == (G[k]?.getD dP).1.toList) = true := by simp [he]
              have hcj' : Hid (cnt (cutL m L) (j + 1) = k + 1) := found_here HU.out (by rw [HL.out]; exact hjn) hcj.out (by rw [← HGF.out, HQ.out]; exact hkq) (by rw [← HGF.out]; exact he)
              have hfo' : Hid (Found (cutL m L) n (k + 1) (fun i => if i = k then j else I i)) := found_put hfo.out hjn hcj.out hcj'.out
              have g0 : ((j : Int) == (n : Int)) = false := by rw [beq_eq_false_iff_ne]; omega
              have t1 := fun nq => (HRQ.out nq).cell hkq
              have z1 := fun nq => (HRQ.out nq).frozen k
              have hrS : Hid (∀ nq, ((wr.drewN nq).setCell ⟨w1.heap.size, k, none⟩ (.int .i64 (j : Int))).rowIs w1.heap.size 3 q (fun i => .int .i64 (((fun i => if i = k then j else I i : Nat → Nat) i : Nat) : Int))) := fun nq => ((HRQ.out nq).set k _).congr fun i _ => by by_cases e : i = k <;> simp [e]
              have hbS : ∀ nq, Below w1.heap.size w1 ((wr.drewN nq).setCell ⟨w1.heap.size, k, none⟩ (.int .i64 (j : Int))) := fun nq => (hbq nq).setCell (Nat.le_refl _) _
              clear he
              generalize (L[j]?.getD dP).1 = p1 at f1 heb
              generalize (G[k]?.getD dP).1 = p2 at f2 heb
              go_wp2
              go_quiet (fail)
              go_wp2
              go_roundw
              case rel => exact ⟨k + 1, j + 1, _, by omega, by omega, by go_num, by go_num, hcj', hfo', hrS.out _, hbS _⟩
              case measure => simp [intOf]; omega
            · have heb : ((L[j]?.getD dP).1.toList == (G[k]?.getD dP).1.toList) = false := by
                rw [beq_eq_false_iff_ne]; intro e; apply he
                rw [ByteArray.toList_eq, ByteArray.toList_eq] at e
                exact ByteArray.ext (Array.ext' e)
              have hcj' : Hid (cnt (cutL m L) (j + 1) = k) := pass_over (by rw [HL.out]; exact hjn) hcj.out (by rw [← HGF.out]; exact he)
              clear he
              generalize (L[j]?.getD dP).1 = p1 at f1 heb
              generalize (G[k]?.getD dP).1 = p2 at f2 heb
              go_wp2
              go_quiet (fail)
              go_wp2
              go_roundw
              case rel => exact ⟨j + 1, by omega, by go_num, hcj', HRQ.out _, hbq _⟩
              case measure => simp [intOf]; omega
        · obtain rfl : k = q := by omega
          clear hcj hj
          obtain ⟨w2, rfl⟩ : ∃ x : World, x = wo := ⟨_, rfl⟩
          have HMM : Hid ((cutL m L).length = n) := by show (cutL m L).length = n; rw [length_cutL, HL.out]
          have hbw2 : Below w.heap.size w w2 := hbr.trans (hb1.mono hbr.size)
          have hlti := hrow.out.lt
          go_wp2
          go_loopw [17, 18, 19] (fun vk vi _ wr => ∃ i : Nat, i ≤ n ∧ vi = .int .i64 i ∧ vk = .int .i64 ((cnt (cutL m L) i : Int) - 1) ∧ Below w2.heap.size w2 wr) (fun _ vi _ _ => n - (intOf vi).toNat)
          case atStart => exact ⟨0, by omega, rfl, by rw [cnt_zero]; rfl, Below.refl _ _⟩
          case round =>
            obtain ⟨i, hi, rfl, rfl, hb3⟩ := hrel
            obtain ⟨wo, rfl⟩ : ∃ x : World, x = wr := ⟨_, rfl⟩
            by_cases hin : i < n
            · have hc1 := cnt_mono (M := cutL m L) (i := i) (j := i + 1) (by omega) (by rw [HMM.out]; omega)
              have hc2 := cnt_mono (M := cutL m L) (i := i + 1) (j := n) (by omega) (by rw [HMM.out]; omega)
              have hall := cnt_all (cutL m L)
              rw [HMM.out, ← HGF.out, HQ.out] at hall
              rw [hall] at hc2
              clear hall
              have hgot := got_at (M := cutL m L) (i := i) (by rw [HMM.out]; exact hin)
              rw [← HGF.out, cutL_get m L (by rw [HL.out]; exact hin)] at hgot
              have HGOT : Hid ((if cnt (cutL m L) (i + 1) = 0 then 0 else (G[cnt (cutL m L) (i + 1) - 1]?.getD dP).2) = cutS m (L[i]?.getD dP).2) := hgot
              clear hgot
              have hle := fun c (hc : c < k) => found_le hfo.out HMM.out (c := c) (i := i) hc hin
              have HLE : Hid (∀ c, c < k → (I c ≤ i ↔ c < cnt (cutL m L) (i + 1))) := hle
              clear hle
              obtain ⟨d, hd⟩ : ∃ d, d = cnt (cutL m L) (i + 1) := ⟨_, rfl⟩
              rw [← hd] at hc1 hc2 HGOT HLE
              have HD : Hid (cnt (cutL m L) (i + 1) = d) := hd.symm
              clear hd
              generalize cnt (cutL m L) i = d0 at hc1
              have hrowo := row_below hrow.out hb3 hlti
              have hbwo : Below w.heap.size w wo := hbw2.trans (hb3.mono hbw2.size)
              obtain ⟨b1, o1, rfl, _, hcU⟩ := ints_cell (h1.below hbwo) hin
              have fU := hcU i hin
              have hcI : Hid (∀ c, c < k → wo.cell? ⟨w1.heap.size, c, none⟩ = some (.int .i64 (I c : Nat))) := fun c hc => hrowo.cell hc
              have hcV : Hid (∀ (_ : 0 < k), ∃ b off, a3 = some ⟨b, off, none⟩ ∧ ∀ j, j < k → wo.cell? ⟨b, off + j, none⟩ = some (.int .u64 (G[j]?.getD dP).2)) := fun h => by
                obtain ⟨b, off, e, _, hc⟩ := ints_cell (h3.below hbwo) h
                exact ⟨b, off, e, hc⟩
              clear hcU hrowo
              go_wp2
              go_loop [17] (fun vk => ∃ c : Nat, c ≤ d ∧ vk = .int .i64 ((c : Int) - 1)) (fun vk => ((d : Int) - intOf vk).toNat)
              case atStart => exact ⟨d0, hc1, rfl⟩
              case round =>
                clear hc1
                obtain ⟨c, hcd, rfl⟩ := hrel
                by_cases hc : c < d
                · have hck : c < k := by omega
                  have hI : I c ≤ i := (HLE.out c hck).2 hc
                  have fI := hcI.out c hck
                  have hI' : ((I c : Nat) : Int) ≤ (i : Int) := by omega
                  generalize I c = x at hI fI hI'
                  go_wp2
                  go_round
                  case rel => exact ⟨c + 1, by omega, by go_num⟩
                  case measure => simp [intOf]; omega
                · obtain rfl : c = d := by omega
                  clear hcd hc
                  have hnext : Hid (∀ nq, Below w2.heap.size w2 (wo.drewN nq)) := fun nq => below_drewN hb3 nq
                  have hrel0 : Hid (Value.int .i64 ((c : Int) - 1) = .int .i64 ((cnt (cutL m L) (i + 1) : Int) - 1)) := by show _ = _; rw [HD.out]
                  rcases Nat.eq_zero_or_pos c with hc0 | hc0
                  · have hz : Hid (cutS m (L[i]?.getD dP).2 = 0) := by show _ = _; rw [← HGOT.out, if_pos hc0]
                    have hneg : ¬ (0 : Int) ≤ (c : Int) - 1 := by omega
                    rcases Nat.lt_or_ge c k with hck | hck
                    · have hI : ¬ ((I c : Nat) : Int) ≤ (i : Int) := by
                        intro h
                        have := (HLE.out c hck).1 (by omega)
                        omega
                      have fI := hcI.out c hck
                      generalize I c = x at fI hI
                      clear hc0
                      go_wp2_with fail
                      refine (cut_any _ _ _).mono ?_
                      rintro e w3 ⟨rfl, rfl⟩
                      rw [hz.out]
                      go_wp2
                      go_roundw
                      case rel => exact ⟨i + 1, by omega, by go_num, hrel0, hb3⟩
                      case measure => simp [intOf]; omega
                    · clear hc0
                      go_wp2_with fail
                      refine (cut_any _ _ _).mono ?_
                      rintro e w3 ⟨rfl, rfl⟩
                      rw [hz.out]
                      go_wp2
                      go_roundw
                      case rel => exact ⟨i + 1, by omega, by go_num, hrel0, hb3⟩
                      case measure => simp [intOf]; omega
                  · have hz : Hid (cutS m (L[i]?.getD dP).2 = (G[c - 1]?.getD dP).2) := by show _ = _; rw [← HGOT.out, if_neg (by omega)]
                    obtain ⟨b3, o3, rfl, hcG⟩ := hcV.out (by omega)
                    have fG := hcG (c - 1) (by omega)
                    have hpos : (0 : Int) ≤ (c : Int) - 1 := by omega
                    have hix : (c : Int) - 1 < (k : Int) := by omega
                    clear hcG
                    rcases Nat.lt_or_ge c k with hck | hck
                    · have hI : ¬ ((I c : Nat) : Int) ≤ (i : Int) := by
                        intro h
                        have := (HLE.out c hck).1 (by omega)
                        omega
                      have fI := hcI.out c hck
                      generalize I c = x at fI hI
                      go_wp2_with fail
                      refine (cut_any _ _ _).mono ?_
                      rintro e w3 ⟨rfl, rfl⟩
                      rw [hz.out]
                      go_wp2
                      go_roundw
                      case rel => exact ⟨i + 1, by omega, by go_num, hrel0, hb3⟩
                      case measure => simp [intOf]; omega
                    · go_wp2_with fail
                      refine (cut_any _ _ _).mono ?_
                      rintro e w3 ⟨rfl, rfl⟩
                      rw [hz.out]
                      go_wp2
                      go_roundw
                      case rel => exact ⟨i + 1, by omega, by go_num, hrel0, hb3⟩
                      case measure => simp [intOf]; omega
            · have hbwo : Below w.heap.size w wo := hbw2.trans (hb3.mono hbw2.size)
              have hfin : Hid (sAt G key G.length = cutS m (sAt L key L.length)) := by show _ = _; rw [HG.out]; exact sAt_forget HU.out hm key
              go_wp2_with fail
              refine (stamp_any a2 a3 k c2 c3 G key wo (by omega) HQ.out (h2.below hbwo) (h3.below hbwo)).mono ?_
              rintro e w3 ⟨rfl, rfl⟩
              go_wp2_with fail
              refine (stamp_any a0 a1 n c0 c1 L key _ hn HL.out (h0.below hbwo) (h1.below hbwo)).mono ?_
              rintro e w4 ⟨rfl, rfl⟩
              go_wp2_with fail
              refine (cut_any _ _ _).mono ?_
              rintro e w5 ⟨rfl, rfl⟩
              rw [← hfin.out]
              generalize sAt G key G.length = y
              go_wp2
              go_ret
              exact ⟨by simp, hbwo⟩

end Go.Proofs.Qxb6618291a
