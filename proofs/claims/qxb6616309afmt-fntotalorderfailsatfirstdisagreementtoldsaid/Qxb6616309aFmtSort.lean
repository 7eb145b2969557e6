/-
  THE WALK of 'b1SortByNode': it sorts the places by their nodes.
-/
import Derived.Test.Qxb6616309aFmtBy
import Derived.Deep.QuietTactic
import Derived.BigQuiet
namespace Go.Proofs.Qxb6616309aFmt
open Go.RowKit

/-- the places p 0 .. p (n - 1) are 0 .. n - 1 in some order -/
structure Perm (n : Nat) (p : Nat → Nat) : Prop where
  lt : ∀ j, j < n → p j < n
  onto : ∀ i, i < n → ∃ j, j < n ∧ p j = i

def nodeP (ds : List (Int × Int)) (p : Nat → Nat) (j : Nat) : Int := nd ds (p j)

/-- p with the value at i laid at j, those of j .. i - 1 moved up by one -/
def ins (p : Nat → Nat) (i j : Nat) (k : Nat) : Nat := if k < j then p k else if k = j then p i else if k ≤ i then p (k - 1) else p k

theorem ins_perm {n : Nat} {p : Nat → Nat} (h : Perm n p) {i j : Nat} (hi : i < n) (hj : j ≤ i) : Perm n (ins p i j) := by
  refine ⟨fun k hk => ?_, fun x hx => ?_⟩
  · unfold ins
    split
    · exact h.lt k hk
    · split
      · exact h.lt i hi
      · split
        · exact h.lt _ (by omega)
        · exact h.lt k hk
  · obtain ⟨k, hk, rfl⟩ := h.onto x hx
    by_cases h1 : k < j
    · exact ⟨k, hk, by unfold ins; rw [if_pos h1]⟩
    · by_cases h2 : k = i
      · subst h2; exact ⟨j, by omega, by unfold ins; rw [if_neg (by omega), if_pos rfl]⟩
      · by_cases h3 : k < i
        · exact ⟨k + 1, by omega, by unfold ins; rw [if_neg (by omega), if_neg (by omega), if_pos (by omega)]; simp⟩
        · exact ⟨k, hk, by unfold ins; rw [if_neg (by omega), if_neg (by omega), if_neg (by omega)]⟩

/-- ascending below i -/
def AscTo (f : Nat → Int) (i : Nat) : Prop := ∀ a b, a ≤ b → b < i → f a ≤ f b

theorem ins_asc {ds : List (Int × Int)} {p : Nat → Nat} {i j : Nat} (hj : j ≤ i) (h : AscTo (nodeP ds p) i) (hlo : j = 0 ∨ nodeP ds p (j - 1) ≤ nodeP ds p i) (hhi : ∀ k, j ≤ k → k < i → nodeP ds p i < nodeP ds p k) : AscTo (nodeP ds (ins p i j)) (i + 1) := by
  have e1 : ∀ k, k < j → nodeP ds (ins p i j) k = nodeP ds p k := fun k hk => by unfold nodeP ins; rw [if_pos hk]
  have e2 : nodeP ds (ins p i j) j = nodeP ds p i := by unfold nodeP ins; rw [if_neg (by omega), if_pos rfl]
  have e3 : ∀ k, j < k → k ≤ i → nodeP ds (ins p i j) k = nodeP ds p (k - 1) := fun k h1 h2 => by unfold nodeP ins; rw [if_neg (by omega), if_neg (by omega), if_pos h2]
  intro a b hab hb
  rcases Nat.lt_trichotomy a j with ha | ha | ha
  · rw [e1 a ha]
    rcases Nat.lt_trichotomy b j with hb' | hb' | hb'
    · rw [e1 b hb']; exact h a b hab (by omega)
    · subst hb'
      rw [e2]
      rcases hlo with h0 | h0
      · omega
      · exact Int.le_trans (h a (b - 1) (by omega) (by omega)) h0
    · rw [e3 b hb' (by omega)]; exact h a (b - 1) (by omega) (by omega)
  · subst ha
    rw [e2]
    rcases Nat.lt_or_eq_of_le hab with hb' | hb'
    · rw [e3 b hb' (by omega)]
      have := hhi (b - 1) (by omega) (by omega)
      omega
    · subst hb'; rw [e2]; omega
  · rw [e3 a ha (by omega), e3 b (by omega) (by omega)]
    exact h (a - 1) (b - 1) (by omega) (by omega)

/-- the row while the value at i moves down: those above j moved up by one -/
def mov (p : Nat → Nat) (i j : Nat) (k : Nat) : Nat := if j < k ∧ k ≤ i then p (k - 1) else p k

theorem mov_start (p : Nat → Nat) (i k : Nat) : p k = mov p i i k := by unfold mov; rw [if_neg (by omega)]
theorem mov_step (p : Nat → Nat) (i j k : Nat) (hj : j + 1 ≤ i) : (if k = j + 1 then Value.int .i32 (mov p i (j + 1) j : Nat) else Value.int .i32 (mov p i (j + 1) k : Nat)) = Value.int .i32 (mov p i j k : Nat) := by
  by_cases h : k = j + 1
  · subst h
    rw [if_pos rfl]
    unfold mov
    rw [if_neg (by omega), if_pos (by omega)]
    simp
  · rw [if_neg h]
    unfold mov
    by_cases h1 : j + 1 < k ∧ k ≤ i
    · rw [if_pos h1, if_pos (by omega)]
    · rw [if_neg h1, if_neg (by omega)]
theorem mov_end (p : Nat → Nat) (i j k : Nat) (hj : j ≤ i) : (if k = j then Value.int .i32 (p i : Nat) else Value.int .i32 (mov p i j k : Nat)) = Value.int .i32 (ins p i j k : Nat) := by
  by_cases h : k = j
  · subst h
    rw [if_pos rfl]; unfold ins; rw [if_neg (by omega), if_pos rfl]
  · rw [if_neg h]; unfold mov ins
    by_cases h1 : k < j
    · rw [if_pos h1, if_neg (by omega)]
    · rw [if_neg h1, if_neg h]
      by_cases h2 : k ≤ i
      · rw [if_pos h2, if_pos (by omega)]
      · rw [if_neg h2, if_neg (by omega)]

set_option maxRecDepth 100000 in
set_option maxHeartbeats 4000000 in
theorem sortByNode_any (pb g n c : Nat) (ds : List (Int × Int)) (p0 : Nat → Nat) (w : World) (hn1 : 1 ≤ n) (hn : n ≤ 65536) (hp0 : Perm n p0) (hr0 : w.rowIs pb 21 n (fun k => .int .i32 (p0 k : Nat))) (hd : ∀ j, j < n → w.cell? ⟨g, j * 2, none⟩ = some (.int .i64 (nd ds j))) (hg : g ≠ pb) :
    Calls Tryf.prog 19 #[.slice (some ⟨pb, 0, none⟩) n n, .slice (some ⟨g, 0, none⟩) n c] w fun e w' => e = .returned (.tuple #[]) ∧ ∃ p, Perm n p ∧ AscTo (nodeP ds p) n ∧ w'.rowIs pb 21 n (fun k => .int .i32 (p k : Nat)) ∧ Keep (fun k => k = pb) w w' := by
  have HD : Hid _ := hd
  clear hd
  go_enter Tryf.func19, Tryf.ntmps19
  go_wp2
  go_loopw [4] (fun vi wr => ∃ (i : Nat) (p : Nat → Nat), i ≤ n ∧ vi = .int .i64 i ∧ Perm n p ∧ AscTo (nodeP ds p) i ∧ wr.rowIs pb 21 n (fun k => .int .i32 (p k : Nat)) ∧ Keep (fun k => k = pb) w wr) (fun vi _ => n - (intOf vi).toNat)
  case atStart => exact ⟨1, p0, hn1, rfl, hp0, fun a b h1 h2 => by obtain rfl : a = b := (by omega); omega, hr0, Keep.refl _ _⟩
  case round =>
    obtain ⟨i, p, hi, rfl, hp, hasc, hr, hk⟩ := hrel
    obtain ⟨wo, rfl⟩ : ∃ x : World, x = wr := ⟨_, rfl⟩
    by_cases hin : i < n
    · have ci := hr.cell hin
      have HR : Hid (wo.rowIs pb 21 n (fun k => .int .i32 (p k : Nat))) := hr
      have HK : Hid _ := hk
      have HA : Hid _ := hasc
      have HP : Hid _ := hp
      clear hr hk hasc hp
      go_wp2
      clear ci
      go_loopw [6] (fun vj wr => ∃ j : Nat, j ≤ i ∧ vj = .int .i64 j ∧ wr.rowIs pb 21 n (fun k => .int .i32 (mov p i j k : Nat)) ∧ (∀ k, j ≤ k → k < i → nodeP ds p i < nodeP ds p k) ∧ Keep (fun k => k = pb) w wr) (fun vj _ => (intOf vj).toNat)
      case atStart => exact ⟨i, by omega, rfl, HR.out.congr fun k _ => by rw [← mov_start], fun k h1 h2 => by omega, HK.out⟩
      case round =>
        obtain ⟨j, hj, rfl, hr, hhi, hk⟩ := hrel
        obtain ⟨wi, rfl⟩ : ∃ x : World, x = wr := ⟨_, rfl⟩
        have cells : ∀ q, q < n → wi.cell? ⟨g, q * 2, none⟩ = some (.int .i64 (nd ds q)) := by
          intro q hq
          have h := HD.out q hq
          have hlt := World.block_lt_of_cell? _ _ h
          exact (World.cell?_of_block (a := ⟨g, q * 2, none⟩) (hk.block g hlt hg)).trans h
        have HCE : Hid _ := cells
        clear cells
        by_cases hgo : 0 < j ∧ nodeP ds p i < nodeP ds p (j - 1)
        · obtain ⟨h0, hlt⟩ := hgo
          obtain ⟨q, rfl⟩ : ∃ q, j = q + 1 := ⟨j - 1, by omega⟩
          have c1 := hr.cell (show q < n by omega)
          have hmq : mov p i (q + 1) q = p q := by unfold mov; rw [if_neg (by omega)]
          rw [hmq] at c1
          have hpq := HP.out.lt q (by omega)
          have hpi := HP.out.lt i hin
          have c2 := HCE.out (p q) hpq
          have c3 := HCE.out (p i) hpi
          have c4 := hr.cell (show q + 1 < n by omega)
          have f4 := hr.frozen (q + 1)
          have HHI : Hid (∀ k, q ≤ k → k < i → nodeP ds p i < nodeP ds p k) := by
            show ∀ k, q ≤ k → k < i → nodeP ds p i < nodeP ds p k
            intro k h1 h2
            by_cases e : k = q
            · subst e; exact hlt
            · exact hhi k (by omega) h2
          have hd2 : decide (nd ds (p i) < nd ds (p q)) = true := by simpa [nodeP] using hlt
          have b1 : ((q + 1 : Nat) : Int) - 1 < (n : Int) := by omega
          have b3 : (0 : Int) ≤ ((q + 1 : Nat) : Int) - 1 := by omega
          have b4 : (((q + 1 : Nat) : Int) - 1).toNat = q := by omega
          have b5 : wrap64 (((q + 1 : Nat) : Int) - 1) = ((q + 1 : Nat) : Int) - 1 := IntWalk.wrap64_in _ ⟨by omega, by omega⟩
          have b6 : IntKind.i64.wrap (((q + 1 : Nat) : Int) - 1) = ((q + 1 : Nat) : Int) - 1 := by rw [IntKind.wrap_i64]; omega
          have b0 : decide ((0 : Int) < ((q + 1 : Nat) : Int)) = true := decide_eq_true (by omega)
          have x1 : (p q : Int) < (n : Int) := by omega
          have x2 : (p i : Int) < (n : Int) := by omega
          have x3 : (0 : Int) ≤ (p q : Int) := by omega
          have x4 : (0 : Int) ≤ (p i : Int) := by omega
          have HKI : Hid _ := hk
          have HRI : Hid (wi.rowIs pb 21 n (fun k => .int .i32 (mov p i (q + 1) k : Nat))) := hr
          clear hhi hlt hk hr
          go_wp2
          go_quiet (fail)
          go_wp2
          go_roundw
          case rel =>
            refine ⟨q, by omega, rfl, ?_, HHI.out, (HKI.out.drewN _).setCell (a := ⟨pb, q + 1, none⟩) (Or.inl rfl) _⟩
            exact ((row_drewN HRI.out _).set (q + 1) _).congr fun k _ => by rw [← hmq]; exact mov_step p i q k hj
          case measure => simp [intOf]
        · have HLO : Hid (j = 0 ∨ nodeP ds p (j - 1) ≤ nodeP ds p i) := by
            show j = 0 ∨ nodeP ds p (j - 1) ≤ nodeP ds p i
            omega
          have cj := hr.cell (show j < n by omega)
          have fj := hr.frozen j
          have HKI : Hid _ := hk
          have HRI : Hid (wi.rowIs pb 21 n (fun k => .int .i32 (mov p i j k : Nat))) := hr
          have HHI : Hid _ := hhi
          have hne : ∀ wx : World, wx.rowIs pb 21 n (fun k => .int .i32 (mov p i j k : Nat)) → (wx.setCell ⟨pb, j, none⟩ (.int .i32 (p i : Nat))).rowIs pb 21 n (fun k => .int .i32 (ins p i j k : Nat)) :=
            fun wx h => (h.set j _).congr fun k _ => mov_end p i j k hj
          have HNE : Hid _ := hne
          clear hne
          have HEND : Hid (Perm n (ins p i j) ∧ AscTo (nodeP ds (ins p i j)) (i + 1)) := ⟨ins_perm HP.out hin hj, ins_asc hj HA.out HLO.out hhi⟩
          rcases Nat.eq_zero_or_pos j with h0 | h0
          · subst h0
            clear hhi hk hr hgo
            go_wp2
            go_quiet (fail)
            go_wp2
            go_roundw
            case rel => exact ⟨i + 1, ins p i 0, by omega, by go_num, HEND.out.1, HEND.out.2, HNE.out _ (row_drewN HRI.out _), (HKI.out.drewN _).setCell (a := ⟨pb, 0, none⟩) (Or.inl rfl) _⟩
            case measure => simp [intOf]; omega
          · have hlt : ¬ nodeP ds p i < nodeP ds p (j - 1) := fun h => hgo ⟨h0, h⟩
            obtain ⟨q, rfl⟩ : ∃ q, j = q + 1 := ⟨j - 1, by omega⟩
            have c1 := hr.cell (show q < n by omega)
            have hmq : mov p i (q + 1) q = p q := by unfold mov; rw [if_neg (by omega)]
            rw [hmq] at c1
            have hpq := HP.out.lt q (by omega)
            have hpi := HP.out.lt i hin
            have c2 := HCE.out (p q) hpq
            have c3 := HCE.out (p i) hpi
            have hd2 : decide (nd ds (p i) < nd ds (p q)) = false := by simpa [nodeP] using hlt
            have b1 : ((q + 1 : Nat) : Int) - 1 < (n : Int) := by omega
            have b3 : (0 : Int) ≤ ((q + 1 : Nat) : Int) - 1 := by omega
            have b4 : (((q + 1 : Nat) : Int) - 1).toNat = q := by omega
            have b5 : wrap64 (((q + 1 : Nat) : Int) - 1) = ((q + 1 : Nat) : Int) - 1 := IntWalk.wrap64_in _ ⟨by omega, by omega⟩
            have b6 : IntKind.i64.wrap (((q + 1 : Nat) : Int) - 1) = ((q + 1 : Nat) : Int) - 1 := by rw [IntKind.wrap_i64]; omega
            have b0 : decide ((0 : Int) < ((q + 1 : Nat) : Int)) = true := decide_eq_true (by omega)
            have x1 : (p q : Int) < (n : Int) := by omega
            have x2 : (p i : Int) < (n : Int) := by omega
            have x3 : (0 : Int) ≤ (p q : Int) := by omega
            have x4 : (0 : Int) ≤ (p i : Int) := by omega
            clear hhi hlt hk hr hgo hmq
            go_wp2
            go_quiet (fail)
            go_wp2
            go_roundw
            case rel => exact ⟨i + 1, ins p i (q + 1), by omega, by go_num, HEND.out.1, HEND.out.2, HNE.out _ (row_drewN HRI.out _), (HKI.out.drewN _).setCell (a := ⟨pb, q + 1, none⟩) (Or.inl rfl) _⟩
            case measure => simp [intOf]; omega
    · obtain rfl : i = n := by omega
      go_wp2
      go_end0
      exact ⟨rfl, p, hp, hasc, hr, hk⟩
end Go.Proofs.Qxb6616309aFmt
