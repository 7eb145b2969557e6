/-
  THE WALK of the law.
-/
import Derived.Test.Qxb6618291aThresh
namespace Go.Proofs.Qxb6618291a
open Go.RowKit

/-- It answers, and memory stands. -/
def Says (w : World) (e : Ending) (w' : World) : Prop := ∃ r : Bool, e = .returned (.bool r) ∧ w = w'
theorem says_mk (w : World) (r : Bool) : Says w (.returned (.bool r)) w := ⟨r, rfl, rfl⟩

set_option maxHeartbeats 1000000 in
theorem bytes_any (a0 a1 : Option Addr) (n0 n1 c0 c1 : Nat) (ss : List ByteArray) (h g : Int) (key : ByteArray) (w : World) (hF : Strs w a0 n0 ss) :
    Calls Try.prog 4 #[.slice a0 n0 c0, .slice a1 n1 c1, .int .u64 h, .int .u64 g, .string key] w fun e w' => Says w e w' := by
  by_cases hn0 : n0 ≤ 1048576
  case neg =>
    go_enter Try.func4, Try.ntmps4
    go_wp2
    go_ret
    exact says_mk _ _
  go_enter Try.func4, Try.ntmps4
  go_wp2
  go_loop [11, 12] (fun vz vi => ∃ z k : Nat, z ≤ 1048576 ∧ k ≤ n0 ∧ vz = .int .i64 z ∧ vi = .int .i64 k) (fun _ vi => n0 - (intOf vi).toNat)
  case atStart => exact ⟨n0, 0, by omega, by omega, by go_num, rfl⟩
  case round =>
    obtain ⟨z, k, hz, hk, rfl, rfl⟩ := hrel
    by_cases hkn : k < n0
    · obtain ⟨b, off, rfl, _, hc⟩ := hF.2 k hkn
      have f1 := hc k hkn
      generalize ss[k]?.getD ByteArray.empty = s at f1
      clear hc
      by_cases h1 : s.size ≤ 1048576
      · by_cases h2 : z + s.size ≤ 1048576
        · go_wp2
          go_round
          case rel => exact ⟨z + s.size, k + 1, by omega, by omega, by go_num, by go_num⟩
          case measure => simp [intOf]; omega
        · go_wp2
          go_ret
          exact says_mk _ _
      · go_wp2
        go_ret
        exact says_mk _ _
    · go_wp2
      all_goals
        go_ret
        exact says_mk _ _

theorem zip_fst {ss : List ByteArray} {zs : List Int} (h : ss.length = zs.length) : (ss.zip zs).map (·.1) = ss := by
  rw [← List.unzip_fst, List.unzip_zip h]
theorem zip_snd {ss : List ByteArray} {zs : List Int} (h : ss.length = zs.length) : (ss.zip zs).map (·.2) = zs := by
  rw [← List.unzip_snd, List.unzip_zip h]
theorem zip_get {ss : List ByteArray} {zs : List Int} (h : ss.length = zs.length) {i : Nat} (hi : i < ss.length) : ((ss.zip zs)[i]?.getD dP).1 = ss[i]?.getD ByteArray.empty := by
  have h2 : i < zs.length := by omega
  have e : (ss.zip zs)[i]? = some (ss[i], zs[i]) := by simp [List.getElem?_zip_eq_some, hi, h2]
  rw [e]; simp [hi]

set_option maxRecDepth 100000 in
set_option maxHeartbeats 4000000 in
theorem law_any (a0 a1 : Option Addr) (n0 n1 c0 c1 : Nat) (ss : List ByteArray) (zs : List Int) (h g : Int) (key : ByteArray) (w : World) (h0 : 0 ≤ h) (g0 : 0 ≤ g) (e0 : a0 = none → n0 = 0) (e1 : a1 = none → n1 = 0)
    (hF : Strs w a0 n0 ss) (hU : Ints .u64 w a1 n1 zs) :
    Calls Try.prog 3 #[.slice a0 n0 c0, .slice a1 n1 c1, .int .u64 h, .int .u64 g, .string key] w fun e w' => e = .returned (.bool true) ∧ Below w.heap.size w w' := by
  have E0 : Hid (a0 = none → n0 = 0) := e0
  have E1 : Hid (a1 = none → n1 = 0) := e1
  clear e0 e1
  go_enter Try.func3, Try.ntmps3
  go_wp2_with fail
  refine (bytes_any a0 a1 n0 n1 c0 c1 ss h g key w hF).mono ?_
  rintro e w1 ⟨r, rfl, rfl⟩
  cases r
  · go_wp2
    go_ret
    exact ⟨rfl, Below.refl _ _⟩
  by_cases hsz : n0 ≤ 65536 ∧ n1 ≤ 65536 ∧ key.size ≤ 65536 ∧ 16 * n0 + 8 * n1 + key.size ≤ 1048576
  case neg =>
    go_wp2
    all_goals
      go_ret
      exact ⟨rfl, Below.refl _ _⟩
  obtain ⟨s0, s1, s2, s3⟩ := hsz
  have d0 : decide ((65536 : Int) < (n0 : Int)) = false := decide_eq_false (by omega)
  have d1 : decide ((65536 : Int) < (n1 : Int)) = false := decide_eq_false (by omega)
  have d2 : decide ((65536 : Int) < (key.size : Int)) = false := decide_eq_false (by omega)
  have d3 : decide ((1048576 : Int) < 16 * (n0 : Int) + 8 * (n1 : Int) + (key.size : Int)) = false := decide_eq_false (by omega)
  go_wp2
  go_loop [11, 12] (fun vz vi => ∃ z k : Nat, z ≤ 1048576 ∧ k ≤ n0 ∧ vz = .int .i64 z ∧ vi = .int .i64 k) (fun _ vi => n0 - (intOf vi).toNat)
  case atStart => exact ⟨16 * n0 + 8 * n1 + key.size, 0, by omega, by omega, by go_num, rfl⟩
  case round =>
    obtain ⟨z, k, hz, hk, rfl, rfl⟩ := hrel
    by_cases hkn : k < n0
    · obtain ⟨b, off, rfl, _, hc⟩ := hF.2 k hkn
      have f1 := hc k hkn
      generalize ss[k]?.getD ByteArray.empty = s at f1
      clear hc
      by_cases h1 : s.size ≤ 1048576
      · by_cases h2 : z + s.size ≤ 1048576
        · go_wp2
          go_round
          case rel => exact ⟨z + s.size, k + 1, by omega, by omega, by go_num, by go_num⟩
          case measure => simp [intOf]; omega
        · go_wp2
          go_ret
          exact ⟨rfl, Below.refl _ _⟩
      · go_wp2
        go_ret
        exact ⟨rfl, Below.refl _ _⟩
    · by_cases hnn : n0 = n1
      case neg =>
        go_wp2
        go_ret
        exact ⟨rfl, Below.refl _ _⟩
      subst hnn
      go_wp2
      go_loopw [13] (fun vi wr => ∃ k : Nat, 1 ≤ k ∧ vi = .int .i64 k ∧ k ≤ n0 + 1 ∧ Hid (∀ i, 0 < i → i < k → i < n0 → ltB (ss[i - 1]?.getD ByteArray.empty) (ss[i]?.getD ByteArray.empty) = true) ∧ Below w.heap.size w wr) (fun vi _ => n0 + 1 - (intOf vi).toNat)
      case atStart => exact ⟨1, by omega, rfl, by omega, fun i a b => by omega, Below.refl _ _⟩
      case round =>
        clear hkn hk
        obtain ⟨k, hk1, rfl, hk, hup, hbr⟩ := hrel
        by_cases hkn : k < n0
        · obtain ⟨b, off, rfl, _, hc⟩ := (hF.below hbr).2 k hkn
          have f1 := hc k hkn
          have f2 := hc (k - 1) (by omega)
          have hbq : ∀ nq, Below w.heap.size w (wr.drewN nq) := fun nq => below_drewN hbr nq
          clear hc
          cases hlt : ltB (ss[k - 1]?.getD ByteArray.empty) (ss[k]?.getD ByteArray.empty) with
          | true =>
            have hup' : Hid (∀ i, 0 < i → i < k + 1 → i < n0 → ltB (ss[i - 1]?.getD ByteArray.empty) (ss[i]?.getD ByteArray.empty) = true) := by
              intro i h0 hi hn
              by_cases e : i = k
              · rw [e]; exact hlt
              · exact hup.out i h0 (by omega) hn
            unfold ltB at hlt
            generalize ss[k - 1]?.getD ByteArray.empty = p1 at f2 hlt
            generalize ss[k]?.getD ByteArray.empty = p2 at f1 hlt
            go_wp2
            go_quiet (fail)
            go_wp2
            go_roundw
            case rel => exact ⟨k + 1, by omega, by go_num, by omega, hup', hbq _⟩
            case measure => simp [intOf]; omega
          | false =>
            unfold ltB at hlt
            generalize ss[k - 1]?.getD ByteArray.empty = p1 at f2 hlt
            generalize ss[k]?.getD ByteArray.empty = p2 at f1 hlt
            go_wp2
            go_quiet (fail)
            go_wp2
            go_ret
            exact ⟨rfl, hbq _⟩
        · obtain ⟨w2, rfl⟩ : ∃ x : World, x = wr := ⟨_, rfl⟩
          have hlen : ss.length = zs.length := by rw [hF.1, hU.1]
          obtain ⟨L, hL⟩ : ∃ L, L = ss.zip zs := ⟨_, rfl⟩
          have hUp : Hid (Up L) := by
            apply up_of_steps
            intro i h0 hi
            have hi' : i < ss.length := by rw [hL, List.length_zip] at hi; omega
            rw [hL, zip_get hlen (by omega), zip_get hlen hi']
            exact hup.out i h0 (by rw [hF.1] at hi'; omega) (by rw [hF.1] at hi'; exact hi')
          have HLL : Hid (L.length = n0) := by show L.length = n0; rw [hL, List.length_zip, ← hlen, Nat.min_self, hF.1]
          replace hF : Strs w2 a0 n0 (L.map (·.1)) := by rw [hL, zip_fst hlen]; exact hF.below hbr
          replace hU : Ints .u64 w2 a1 n0 (L.map (·.2)) := by rw [hL, zip_snd hlen]; exact hU.below hbr
          clear hL hlen hup
          go_wp2_with fail
          refine (clones_any a0 n0 c0 (L.map (·.1)) w2 (by omega) E0.out hF).mono ?_
          rintro e w3 ⟨x0, y0, rfl, X0', hF3, hb3⟩
          have X0 : Hid (x0 = none → n0 = 0) := X0'
          clear X0'
          have hbw : Below w.heap.size w w3 := hbr.trans (hb3.mono hbr.size)
          replace hU := hU.below hb3
          clear hF hbr hb3
          go_wp2_with fail
          refine (cloneu_any a1 n0 c1 (L.map (·.2)) w3 (by omega) E1.out hU).mono ?_
          rintro e w4 ⟨x1, y1, rfl, X1', hU4, hb4⟩
          have X1 : Hid (x1 = none → n0 = 0) := X1'
          clear X1'
          have hF := hF3.below hb4
          replace hbw : Below w.heap.size w w4 := hbw.trans (hb4.mono hbw.size)
          clear hU hF3 hb4
          have hU := hU4
          clear hU4
          by_cases hgt : h < g
          · -- the second is the greater
            have hmm : Hid (forgetL g (forgetL h L) = forgetL g L) := by
              have := forget_twice h0 g0 L
              rw [if_pos hgt] at this
              exact this
            go_wp2_with fail
            refine (clones_any x0 n0 y0 (L.map (·.1)) w4 (by omega) X0.out hF).mono ?_
            rintro e w5 ⟨u0, v0, rfl, U0, hF5, hb5⟩
            replace hF := hF.below hb5
            replace hU := hU.below hb5
            replace hbw : Below w.heap.size w w5 := hbw.trans (hb5.mono hbw.size)
            clear hb5
            go_wp2_with fail
            refine (cloneu_any x1 n0 y1 (L.map (·.2)) w5 (by omega) X1.out hU).mono ?_
            rintro e w6 ⟨u1, v1, rfl, U1, hU6, hb6⟩
            replace hF := hF.below hb6
            replace hU := hU.below hb6
            replace hF5 := hF5.below hb6
            replace hbw : Below w.heap.size w w6 := hbw.trans (hb6.mono hbw.size)
            clear hb6 U0 U1
            go_wp2_with fail
            refine (zz_any u0 u1 n0 v0 v1 L h w6 (by omega) HLL.out hF5 hU6).mono ?_
            rintro e w7 ⟨p0, p1, m1, hm1, rfl, hP, hQ, hb7⟩
            have hm1n : m1 ≤ n0 := by rw [hm1, ← HLL.out]; exact forgetL_length h L
            replace hF := hF.below hb7
            replace hU := hU.below hb7
            replace hbw : Below w.heap.size w w7 := hbw.trans (hb7.mono hbw.size)
            obtain ⟨F1, hF1⟩ : ∃ F, F = forgetL h L := ⟨_, rfl⟩
            rw [← hF1] at hP hQ hm1
            have HF1 : Hid (F1 = forgetL h L) := hF1
            have HM1 : Hid (F1.length = m1) := hm1.symm
            clear hb7 hm1 hF1 hF5 hU6
            go_wp2_with fail
            refine (clones_any (some p0) m1 m1 (F1.map (·.1)) w7 (by omega) (by simp) hP).mono ?_
            rintro e w8 ⟨u0, v0, rfl, U0, hF8, hb8⟩
            replace hF := hF.below hb8
            replace hU := hU.below hb8
            replace hQ := hQ.below hb8
            replace hbw : Below w.heap.size w w8 := hbw.trans (hb8.mono hbw.size)
            clear hb8 hP
            go_wp2_with fail
            refine (cloneu_any (some p1) m1 m1 (F1.map (·.2)) w8 (by omega) (by simp) hQ).mono ?_
            rintro e w9 ⟨u1, v1, rfl, U1, hU9, hb9⟩
            replace hF := hF.below hb9
            replace hU := hU.below hb9
            replace hF8 := hF8.below hb9
            replace hbw : Below w.heap.size w w9 := hbw.trans (hb9.mono hbw.size)
            clear hb9 hQ U0 U1
            go_wp2_with fail
            refine (zz_any u0 u1 m1 v0 v1 F1 g w9 (by omega) HM1.out hF8 hU9).mono ?_
            rintro e w10 ⟨q0, q1, m2, hm2, rfl, hP, hQ, hb10⟩
            replace hF := hF.below hb10
            replace hU := hU.below hb10
            replace hbw : Below w.heap.size w w10 := hbw.trans (hb10.mono hbw.size)
            obtain ⟨G, hG⟩ : ∃ F, F = forgetL g L := ⟨_, rfl⟩
            rw [HF1.out, hmm.out, ← hG] at hP hQ hm2
            have HM2 : Hid (G.length = m2) := hm2.symm
            have hm2n : m2 ≤ n0 := by rw [hm2, hG, ← HLL.out]; exact forgetL_length _ L
            have HG : Hid (G = forgetL g L) := hG
            clear hb10 hm2 hG hF8 hU9
            go_wp2_with fail
            refine (clones_any x0 n0 y0 (L.map (·.1)) w10 (by omega) X0.out hF).mono ?_
            rintro e w11 ⟨u0, v0, rfl, U0, hF11, hb11⟩
            replace hF := hF.below hb11
            replace hU := hU.below hb11
            replace hP := hP.below hb11
            replace hQ := hQ.below hb11
            replace hbw : Below w.heap.size w w11 := hbw.trans (hb11.mono hbw.size)
            clear hb11
            go_wp2_with fail
            refine (cloneu_any x1 n0 y1 (L.map (·.2)) w11 (by omega) X1.out hU).mono ?_
            rintro e w12 ⟨u1, v1, rfl, U1, hU12, hb12⟩
            replace hF := hF.below hb12
            replace hU := hU.below hb12
            replace hP := hP.below hb12
            replace hQ := hQ.below hb12
            replace hF11 := hF11.below hb12
            replace hbw : Below w.heap.size w w12 := hbw.trans (hb12.mono hbw.size)
            clear hb12 U0 U1
            go_wp2_with fail
            refine (zz_any u0 u1 n0 v0 v1 L g w12 (by omega) HLL.out hF11 hU12).mono ?_
            rintro e w13 ⟨r0, r1, m3, hm3, rfl, hP3, hQ3, hb13⟩
            replace hF := hF.below hb13
            replace hU := hU.below hb13
            replace hP := hP.below hb13
            replace hQ := hQ.below hb13
            replace hbw : Below w.heap.size w w13 := hbw.trans (hb13.mono hbw.size)
            rw [← HG.out] at hP3 hQ3 hm3
            obtain rfl : m3 = m2 := by rw [hm3, HM2.out]
            clear hb13 hm3 hF11 hU12
            go_wp2_with fail
            refine (sames_any (some q0) (some r0) m3 m3 m3 (G.map (·.1)) w13 (by omega) hP hP3).mono ?_
            rintro e w14 ⟨rfl, hb14⟩
            replace hF := hF.below hb14
            replace hU := hU.below hb14
            replace hQ := hQ.below hb14
            replace hP3 := hP3.below hb14
            replace hQ3 := hQ3.below hb14
            replace hbw : Below w.heap.size w w14 := hbw.trans (hb14.mono hbw.size)
            clear hb14 hP
            go_wp2_with fail
            refine (sameu_any (some q1) (some r1) m3 m3 m3 (G.map (·.2)) w14 (by omega) hQ hQ3).mono ?_
            rintro e w15 ⟨rfl, hb15⟩
            replace hF := hF.below hb15
            replace hU := hU.below hb15
            replace hP3 := hP3.below hb15
            replace hQ3 := hQ3.below hb15
            replace hbw : Below w.heap.size w w15 := hbw.trans (hb15.mono hbw.size)
            clear hb15 hQ
            go_wp2_with fail
            refine (thresh_any x0 x1 (some r0) (some r1) n0 m3 y0 y1 m3 m3 L G g key w15 (by omega) HLL.out (by omega) hUp.out HG.out HM2.out hF hU hP3 hQ3).mono ?_
            rintro e w16 ⟨rfl, hb16⟩
            replace hbw : Below w.heap.size w w16 := hbw.trans (hb16.mono hbw.size)
            clear hb16 hF hU hP3 hQ3
            go_wp2
            go_ret
            exact ⟨rfl, hbw⟩
          · -- the first is
            have hmm : Hid (forgetL g (forgetL h L) = forgetL h L) := by
              have := forget_twice h0 g0 L
              rw [if_neg hgt] at this
              exact this
            go_wp2_with fail
            refine (clones_any x0 n0 y0 (L.map (·.1)) w4 (by omega) X0.out hF).mono ?_
            rintro e w5 ⟨u0, v0, rfl, U0, hF5, hb5⟩
            replace hF := hF.below hb5
            replace hU := hU.below hb5
            replace hbw : Below w.heap.size w w5 := hbw.trans (hb5.mono hbw.size)
            clear hb5
            go_wp2_with fail
            refine (cloneu_any x1 n0 y1 (L.map (·.2)) w5 (by omega) X1.out hU).mono ?_
            rintro e w6 ⟨u1, v1, rfl, U1, hU6, hb6⟩
            replace hF := hF.below hb6
            replace hU := hU.below hb6
            replace hF5 := hF5.below hb6
            replace hbw : Below w.heap.size w w6 := hbw.trans (hb6.mono hbw.size)
            clear hb6 U0 U1
            go_wp2_with fail
            refine (zz_any u0 u1 n0 v0 v1 L h w6 (by omega) HLL.out hF5 hU6).mono ?_
            rintro e w7 ⟨p0, p1, m1, hm1, rfl, hP, hQ, hb7⟩
            have hm1n : m1 ≤ n0 := by rw [hm1, ← HLL.out]; exact forgetL_length h L
            replace hF := hF.below hb7
            replace hU := hU.below hb7
            replace hbw : Below w.heap.size w w7 := hbw.trans (hb7.mono hbw.size)
            obtain ⟨F1, hF1⟩ : ∃ F, F = forgetL h L := ⟨_, rfl⟩
            rw [← hF1] at hP hQ hm1
            have HF1 : Hid (F1 = forgetL h L) := hF1
            have HM1 : Hid (F1.length = m1) := hm1.symm
            clear hb7 hm1 hF1 hF5 hU6
            go_wp2_with fail
            refine (clones_any (some p0) m1 m1 (F1.map (·.1)) w7 (by omega) (by simp) hP).mono ?_
            rintro e w8 ⟨u0, v0, rfl, U0, hF8, hb8⟩
            replace hF := hF.below hb8
            replace hU := hU.below hb8
            replace hQ := hQ.below hb8
            replace hbw : Below w.heap.size w w8 := hbw.trans (hb8.mono hbw.size)
            clear hb8 hP
            go_wp2_with fail
            refine (cloneu_any (some p1) m1 m1 (F1.map (·.2)) w8 (by omega) (by simp) hQ).mono ?_
            rintro e w9 ⟨u1, v1, rfl, U1, hU9, hb9⟩
            replace hF := hF.below hb9
            replace hU := hU.below hb9
            replace hF8 := hF8.below hb9
            replace hbw : Below w.heap.size w w9 := hbw.trans (hb9.mono hbw.size)
            clear hb9 hQ U0 U1
            go_wp2_with fail
            refine (zz_any u0 u1 m1 v0 v1 F1 g w9 (by omega) HM1.out hF8 hU9).mono ?_
            rintro e w10 ⟨q0, q1, m2, hm2, rfl, hP, hQ, hb10⟩
            replace hF := hF.below hb10
            replace hU := hU.below hb10
            replace hbw : Below w.heap.size w w10 := hbw.trans (hb10.mono hbw.size)
            obtain ⟨G, hG⟩ : ∃ F, F = forgetL h L := ⟨_, rfl⟩
            rw [HF1.out, hmm.out, ← hG] at hP hQ hm2
            have HM2 : Hid (G.length = m2) := hm2.symm
            have hm2n : m2 ≤ n0 := by rw [hm2, hG, ← HLL.out]; exact forgetL_length _ L
            have HG : Hid (G = forgetL h L) := hG
            clear hb10 hm2 hG hF8 hU9
            go_wp2_with fail
            refine (clones_any x0 n0 y0 (L.map (·.1)) w10 (by omega) X0.out hF).mono ?_
            rintro e w11 ⟨u0, v0, rfl, U0, hF11, hb11⟩
            replace hF := hF.below hb11
            replace hU := hU.below hb11
            replace hP := hP.below hb11
            replace hQ := hQ.below hb11
            replace hbw : Below w.heap.size w w11 := hbw.trans (hb11.mono hbw.size)
            clear hb11
            go_wp2_with fail
            refine (cloneu_any x1 n0 y1 (L.map (·.2)) w11 (by omega) X1.out hU).mono ?_
            rintro e w12 ⟨u1, v1, rfl, U1, hU12, hb12⟩
            replace hF := hF.below hb12
            replace hU := hU.below hb12
            replace hP := hP.below hb12
            replace hQ := hQ.below hb12
            replace hF11 := hF11.below hb12
            replace hbw : Below w.heap.size w w12 := hbw.trans (hb12.mono hbw.size)
            clear hb12 U0 U1
            go_wp2_with fail
            refine (zz_any u0 u1 n0 v0 v1 L h w12 (by omega) HLL.out hF11 hU12).mono ?_
            rintro e w13 ⟨r0, r1, m3, hm3, rfl, hP3, hQ3, hb13⟩
            replace hF := hF.below hb13
            replace hU := hU.below hb13
            replace hP := hP.below hb13
            replace hQ := hQ.below hb13
            replace hbw : Below w.heap.size w w13 := hbw.trans (hb13.mono hbw.size)
            rw [← HG.out] at hP3 hQ3 hm3
            obtain rfl : m3 = m2 := by rw [hm3, HM2.out]
            clear hb13 hm3 hF11 hU12
            go_wp2_with fail
            refine (sames_any (some q0) (some r0) m3 m3 m3 (G.map (·.1)) w13 (by omega) hP hP3).mono ?_
            rintro e w14 ⟨rfl, hb14⟩
            replace hF := hF.below hb14
            replace hU := hU.below hb14
            replace hQ := hQ.below hb14
            replace hP3 := hP3.below hb14
            replace hQ3 := hQ3.below hb14
            replace hbw : Below w.heap.size w w14 := hbw.trans (hb14.mono hbw.size)
            clear hb14 hP
            go_wp2_with fail
            refine (sameu_any (some q1) (some r1) m3 m3 m3 (G.map (·.2)) w14 (by omega) hQ hQ3).mono ?_
            rintro e w15 ⟨rfl, hb15⟩
            replace hF := hF.below hb15
            replace hU := hU.below hb15
            replace hP3 := hP3.below hb15
            replace hQ3 := hQ3.below hb15
            replace hbw : Below w.heap.size w w15 := hbw.trans (hb15.mono hbw.size)
            clear hb15 hQ
            go_wp2_with fail
            refine (thresh_any x0 x1 (some r0) (some r1) n0 m3 y0 y1 m3 m3 L G h key w15 (by omega) HLL.out (by omega) hUp.out HG.out HM2.out hF hU hP3 hQ3).mono ?_
            rintro e w16 ⟨rfl, hb16⟩
            replace hbw : Below w.heap.size w w16 := hbw.trans (hb16.mono hbw.size)
            clear hb16 hF hU hP3 hQ3
            go_wp2
            go_ret
            exact ⟨rfl, hbw⟩

end Go.Proofs.Qxb6618291a
