/-
  THE WALKS of the small functions: cloneStrings, cloneUints, sameStrings, sameUints, cutStamp, stampAt, sameReadBy.
-/
import Derived.Test.Qxb6618291aMem
import Derived.WalkSpells
import Derived.Deep.QuietTactic
import Derived.BigQuiet
namespace Go.Proofs.Qxb6618291a
open Go.RowKit

set_option maxHeartbeats 400000 in
theorem clones_any (a : Option Addr) (n c : Nat) (ss : List ByteArray) (w : World) (hn : n ≤ 1048576) (ha : a = none → n = 0) (h : Strs w a n ss) :
    Calls Try.prog 5 #[.slice a n c] w fun e w' => ∃ a' c', e = .returned (.slice a' n c') ∧ (a' = none → n = 0) ∧ Strs w' a' n ss ∧ Below w.heap.size w w' := by
  have q := fun (wx : World) (a : Option Addr) (n c : Nat) => Lib.run_eql_slice_nil (P := Try.prog) wx 22 9 a n c 0 0 Try.underlying22
  cases a with
  | none =>
    have hn0 : Hid (n = 0) := ha rfl
    clear ha
    go_enter Try.func5, Try.ntmps5
    go_wp2
    go_ret
    refine ⟨none, 0, ?_, fun _ => hn0.out, ⟨h.1, fun i hi => by have := hn0.out; omega⟩, Below.refl _ _⟩
    rw [hn0.out]; rfl
  | some x =>
    have hcp := fun c ty => copy22 x n c ss w h ty
    have hmk := make22 n hn
    have HCD : Hid (Strs (w.alloc (.cells (ss.map Value.string).toArray 9)) (some ⟨w.heap.size, 0, none⟩) n ss) := copied22 n ss w h.1
    go_enter Try.func5, Try.ntmps5
    go_wp2
    go_ret
    exact ⟨_, _, rfl, by simp, HCD.out, (Below.refl _ _).alloc (Nat.le_refl _) _⟩

set_option maxHeartbeats 400000 in
theorem cloneu_any (a : Option Addr) (n c : Nat) (zs : List Int) (w : World) (hn : n ≤ 1048576) (ha : a = none → n = 0) (h : Ints .u64 w a n zs) :
    Calls Try.prog 6 #[.slice a n c] w fun e w' => ∃ a' c', e = .returned (.slice a' n c') ∧ (a' = none → n = 0) ∧ Ints .u64 w' a' n zs ∧ Below w.heap.size w w' := by
  have q := fun (wx : World) (a : Option Addr) (n c : Nat) => Lib.run_eql_slice_nil (P := Try.prog) wx 23 24 a n c 0 0 Try.underlying23
  cases a with
  | none =>
    have hn0 : Hid (n = 0) := ha rfl
    clear ha
    go_enter Try.func6, Try.ntmps6
    go_wp2
    go_ret
    refine ⟨none, 0, ?_, fun _ => hn0.out, ⟨h.1, fun i hi => by have := hn0.out; omega⟩, Below.refl _ _⟩
    rw [hn0.out]; rfl
  | some x =>
    have hcp := fun c ty => copy23 x n c zs w h ty
    have hmk := make23 n hn
    have HCD : Hid (Ints .u64 (w.alloc (.cells (zs.map (Value.int .u64)).toArray 24)) (some ⟨w.heap.size, 0, none⟩) n zs) := copied23 n zs w h.1
    go_enter Try.func6, Try.ntmps6
    go_wp2
    go_ret
    exact ⟨_, _, rfl, by simp, HCD.out, (Below.refl _ _).alloc (Nat.le_refl _) _⟩

theorem cut_any (b m : Int) (w : World) : Calls Try.prog 12 #[.int .u64 b, .int .u64 m] w fun e w' => e = .returned (.int .u64 (cutS m b)) ∧ w' = w := by
  by_cases h : b ≤ m
  · have e : cutS m b = 0 := if_pos h
    rw [e]
    have hh : ¬ m < b := by omega
    go_enter Try.func12, Try.ntmps12
    go_wp2
    go_ret
    exact ⟨rfl, rfl⟩
  · have e : cutS m b = b := if_neg h
    rw [e]
    have hh : m < b := by omega
    go_enter Try.func12, Try.ntmps12
    go_wp2
    go_ret
    exact ⟨rfl, rfl⟩

set_option maxHeartbeats 400000 in
theorem stamp_any (a a' : Option Addr) (n c c' : Nat) (L : List Rng) (key : ByteArray) (w : World) (hn : n ≤ 1048576) (hl : L.length = n) (hF : Strs w a n (L.map (·.1))) (hU : Ints .u64 w a' n (L.map (·.2))) :
    Calls Try.prog 13 #[.slice a n c, .slice a' n c', .string key] w fun e w' => e = .returned (.int .u64 (sAt L key L.length)) ∧ w' = w := by
  have HL : Hid (L.length = n) := hl
  clear hl
  go_enter Try.func13, Try.ntmps13
  go_wp2
  go_loop [7] (fun vj => ∃ k : Nat, k ≤ n ∧ vj = .int .i64 ((k : Int) - 1) ∧ Hid (sAt L key k = sAt L key L.length)) (fun vj => (intOf vj + 1).toNat)
  case atStart => exact ⟨n, Nat.le_refl _, rfl, (show sAt L key n = sAt L key L.length by rw [HL.out])⟩
  case round =>
    obtain ⟨k, hk, rfl, hs⟩ := hrel
    rcases Nat.eq_zero_or_pos k with h0 | h0
    · have hs0 : Hid (sAt L key L.length = 0) := (show sAt L key L.length = 0 by rw [← hs.out, h0]; rfl)
      have hneg : (k : Int) - 1 < 0 := by omega
      clear hs h0
      go_wp2
      go_ret
      exact ⟨by rw [hs0.out]; rfl, rfl⟩
    · obtain ⟨j, rfl⟩ : ∃ j, k = j + 1 := ⟨k - 1, by omega⟩
      obtain ⟨b, off, rfl, _, hcF⟩ := hF.2 j (by omega)
      obtain ⟨b', off', rfl, _, hcU⟩ := hU.2 j (by omega)
      have f1 := hcF j (by omega)
      have f2 := hcU j (by omega)
      have hj : j < L.length := by rw [HL.out]; omega
      simp only [List.getElem?_map, List.getElem?_eq_getElem hj, Option.map_some, Option.getD_some] at f1 f2
      have hst : sAt L key (j + 1) = if leB (L[j]).1 key = true then (L[j]).2 else sAt L key j := by
        rw [sAt, List.getElem?_eq_getElem hj]; rfl
      generalize L[j] = p at f1 f2 hst
      cases hle : leB p.1 key with
      | true =>
        have hs0 : Hid (sAt L key L.length = p.2) := (show sAt L key L.length = p.2 by rw [← hs.out, hst, if_pos hle])
        unfold leB at hle
        clear hst hs hcF hcU
        go_wp2
        go_ret
        exact ⟨by rw [hs0.out]; rfl, rfl⟩
      | false =>
        have hs0 : Hid (sAt L key j = sAt L key L.length) := (show sAt L key j = sAt L key L.length by rw [← hs.out, hst, if_neg (by rw [hle]; simp)])
        unfold leB at hle
        clear hst hs hcF hcU
        go_wp2
        go_round
        case rel => exact ⟨j, by omega, by go_num, hs0⟩
        case measure => simp [intOf]



set_option maxHeartbeats 400000 in
theorem sames_any (a a' : Option Addr) (n c c' : Nat) (ss : List ByteArray) (w : World) (hn : n ≤ 1048576) (h : Strs w a n ss) (h' : Strs w a' n ss) :
    Calls Try.prog 8 #[.slice a n c, .slice a' n c'] w fun e w' => e = .returned (.bool true) ∧ Below w.heap.size w w' := by
  go_enter Try.func8, Try.ntmps8
  go_wp2
  go_loopw [5] (fun vi wr => ∃ k : Nat, k ≤ n ∧ vi = .int .i64 k ∧ Below w.heap.size w wr) (fun vi _ => n - (intOf vi).toNat)
  case atStart => exact ⟨0, by omega, rfl, Below.refl _ _⟩
  case round =>
    obtain ⟨k, hk, rfl, hbr⟩ := hrel
    by_cases hkn : k < n
    · obtain ⟨b, o, rfl, _, hc⟩ := (h.below hbr).2 k hkn
      obtain ⟨b', o', rfl, _, hc'⟩ := (h'.below hbr).2 k hkn
      have f1 := hc k hkn
      have f2 := hc' k hkn
      generalize ss[k]?.getD ByteArray.empty = x at f1 f2
      clear hc hc'
      go_wp2
      go_quiet (fail)
      go_wp2
      go_roundw
      case rel => exact ⟨k + 1, by omega, by go_num, below_drewN hbr _⟩
      case measure => simp [intOf]; omega
    · go_wp2
      go_ret
      exact ⟨rfl, hbr⟩

set_option maxHeartbeats 400000 in
theorem sameu_any (a a' : Option Addr) (n c c' : Nat) (zs : List Int) (w : World) (hn : n ≤ 1048576) (h : Ints .u64 w a n zs) (h' : Ints .u64 w a' n zs) :
    Calls Try.prog 9 #[.slice a n c, .slice a' n c'] w fun e w' => e = .returned (.bool true) ∧ Below w.heap.size w w' := by
  go_enter Try.func9, Try.ntmps9
  go_wp2
  go_loopw [5] (fun vi wr => ∃ k : Nat, k ≤ n ∧ vi = .int .i64 k ∧ Below w.heap.size w wr) (fun vi _ => n - (intOf vi).toNat)
  case atStart => exact ⟨0, by omega, rfl, Below.refl _ _⟩
  case round =>
    obtain ⟨k, hk, rfl, hbr⟩ := hrel
    by_cases hkn : k < n
    · obtain ⟨b, o, rfl, _, hc⟩ := (h.below hbr).2 k hkn
      obtain ⟨b', o', rfl, _, hc'⟩ := (h'.below hbr).2 k hkn
      have f1 := hc k hkn
      have f2 := hc' k hkn
      generalize zs[k]?.getD 0 = x at f1 f2
      clear hc hc'
      go_wp2
      go_quiet (fail)
      go_wp2
      go_roundw
      case rel => exact ⟨k + 1, by omega, by go_num, below_drewN hbr _⟩
      case measure => simp [intOf]; omega
    · go_wp2
      go_ret
      exact ⟨rfl, hbr⟩

theorem read_any (s s' : ByteArray) (u u' : Int) (w : World) : Calls Try.prog 15 #[.agg #[.string s, .int .u64 u], .agg #[.string s', .int .u64 u']] w fun e w' => e = .returned (.bool (u == u')) ∧ w' = (w.alloc (.cells #[.string s, .int .u64 u] 36)).alloc (.cells #[.string s', .int .u64 u'] 36) := by
  go_enter Try.func15, Try.ntmps15
  go_wp2
  go_ret
  exact ⟨rfl, rfl⟩

end Go.Proofs.Qxb6618291a
