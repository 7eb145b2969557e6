/-
  THE WALKS of the library's comparison and binary search, and of 'search', 'indexed'.
-/
import Derived.Test.Qxb6616309aFmtMem
namespace Go.Proofs.Qxb6616309aFmt
open Go.RowKit

theorem isNaN_any (a : Int) (w : World) : Calls Tryf.prog 31 #[.int .i64 a] w fun e w' => e = .returned (.bool false) ∧ w' = w := by
  go_enter Tryf.func31, Tryf.ntmps31
  go_wp2
  go_ret
  exact ⟨by simp, rfl⟩

def cmpI (a b : Int) : Int := if a < b then -1 else if b < a then 1 else 0

theorem compare_any (a b : Int) (w : World) : Calls Tryf.prog 30 #[.int .i64 a, .int .i64 b] w fun e w' => e = .returned (.int .i64 (cmpI a b)) ∧ w' = w := by
  unfold cmpI
  rcases (show a < b ∨ (¬ a < b ∧ b < a) ∨ (¬ a < b ∧ ¬ b < a) from by omega) with h | ⟨h, h2⟩ | ⟨h, h2⟩
  all_goals
    go_enter Tryf.func30, Tryf.ntmps30
    go_wp2_with fail
    refine (isNaN_any a w).mono ?_
    rintro e w1 ⟨rfl, rfl⟩
    go_wp2_with fail
    refine (isNaN_any b _).mono ?_
    rintro e w1 ⟨rfl, rfl⟩
    go_wp2
    go_ret
    exact ⟨by simp, rfl⟩


def nd (ds : List (Int × Int)) (i : Nat) : Int := (ds[i]?.getD (0, 0)).1
def sq (ds : List (Int × Int)) (i : Nat) : Int := (ds[i]?.getD (0, 0)).2
def ix (is : List Int) (i : Nat) : Int := is[i]?.getD 0

/-- the message at ⟨mb, mo⟩ whose deliveries are ds -/
structure MsgAt (w : World) (mb mo D n : Nat) (ds : List (Int × Int)) : Prop where
  len : ds.length = n
  fld : w.cell? ⟨mb, mo + 3, none⟩ = some (.slice (some ⟨D, 0, none⟩) n n)
  node : ∀ j, j < n → w.cell? ⟨D, j * 2, none⟩ = some (.int .i64 (nd ds j))
  seq : ∀ j, j < n → w.cell? ⟨D, j * 2 + 1, none⟩ = some (.int .i64 (sq ds j))
  small : n ≤ 65536

theorem cmpAt_any (vb mb mo D n i : Nat) (q : Int) (ds : List (Int × Int)) (w : World) (hv : w.cell? ⟨vb, 0, none⟩ = some (.pointer (some ⟨mb, mo, none⟩))) (hm : MsgAt w mb mo D n ds) (hi : i < n) :
    Calls Tryf.prog 29 #[.int .i32 i, .int .i64 q, .pointer (some ⟨vb, 0, none⟩)] w fun e w' => e = .returned (.int .i64 (cmpI (nd ds i) q)) ∧ w' = w := by
  have h1 := hm.fld
  have h2 := hm.node i hi
  have h3 := hm.small
  go_enter Tryf.func29, Tryf.ntmps29
  go_wp2_with fail
  refine (compare_any _ _ _).mono ?_
  rintro e w1 ⟨rfl, rfl⟩
  go_wp2
  go_ret
  exact ⟨rfl, rfl⟩

theorem indexed_any (mb mo D n : Nat) (ds : List (Int × Int)) (w : World) (hm : MsgAt w mb mo D n ds) :
    Calls Tryf.prog 26 #[.pointer (some ⟨mb, mo, none⟩)] w fun e w' => e = .returned (.bool (decide ((8 : Int) < (n : Int)))) ∧ w' = w := by
  have h1 := hm.fld
  have h3 := hm.small
  go_enter Tryf.func26, Tryf.ntmps26
  go_wp2
  go_ret
  exact ⟨rfl, rfl⟩

/-- the places is, by node -/
structure IdxOk (n : Nat) (ds : List (Int × Int)) (is : List Int) : Prop where
  rng : ∀ j, j < n → ∃ i : Nat, ix is j = (i : Int) ∧ i < n
  onto : ∀ i : Nat, i < n → ∃ j, j < n ∧ ix is j = (i : Int)
  asc : ∀ j k, j ≤ k → k < n → nd ds (ix is j).toNat ≤ nd ds (ix is k).toNat

def nodeAt (ds : List (Int × Int)) (is : List Int) (j : Nat) : Int := nd ds (ix is j).toNat

/-- it answers a place of q among f 0 .. f (n - 1), or that there is none -/
def Seeks (n : Nat) (f : Nat → Int) (q : Int) (e : Ending) : Prop := ∃ (p : Nat) (b : Bool), e = .returned (.tuple #[.int .i64 p, .bool b]) ∧ (b = true → p < n ∧ f p = q) ∧ (b = false → ∀ j, j < n → f j ≠ q)

theorem seek_lo {n : Nat} {ds : List (Int × Int)} {is : List Int} (h : IdxOk n ds is) {m x : Nat} {q : Int} (hx : ix is m = (x : Int)) (hm : m < n) (hc : cmpI (nd ds x) q < 0) : ∀ j, j < m + 1 → nodeAt ds is j < q := by
  intro j hj
  have := h.asc j m (by omega) hm
  rw [hx] at this
  unfold cmpI at hc
  unfold nodeAt
  simp only [Int.toNat_natCast] at this
  split at hc
  · omega
  · split at hc <;> omega
theorem seek_hi {n : Nat} {ds : List (Int × Int)} {is : List Int} (h : IdxOk n ds is) {m x : Nat} {q : Int} (hx : ix is m = (x : Int)) (hc : ¬ cmpI (nd ds x) q < 0) : ∀ j, m ≤ j → j < n → q ≤ nodeAt ds is j := by
  intro j hj hn
  have := h.asc m j (by omega) hn
  rw [hx] at this
  unfold cmpI at hc
  unfold nodeAt
  simp only [Int.toNat_natCast] at this
  split at hc
  · omega
  · omega
theorem cmpI_zero {a b : Int} : cmpI a b = 0 ↔ a = b := by
  unfold cmpI
  split
  · omega
  · split <;> omega
theorem seek_found {ds : List (Int × Int)} {is : List Int} {m x : Nat} {q : Int} (hx : ix is m = (x : Int)) (hc : cmpI (nd ds x) q = 0) : nodeAt ds is m = q := by
  unfold nodeAt
  rw [hx]
  exact cmpI_zero.1 hc
theorem seek_none {n : Nat} {ds : List (Int × Int)} {is : List Int} (h : IdxOk n ds is) {m x : Nat} {q : Int} (hx : ix is m = (x : Int)) (_hm : m < n) (hlt : ∀ j, j < m → nodeAt ds is j < q) (hc : ¬ cmpI (nd ds x) q = 0)
    (hge : ∀ j, m ≤ j → j < n → q ≤ nodeAt ds is j) : ∀ j, j < n → nodeAt ds is j ≠ q := by
  intro j hj
  by_cases h1 : j < m
  · have := hlt j h1; omega
  · have h2 := h.asc m j (by omega) hj
    have h3 := hge m (Nat.le_refl _) _hm
    have h4 : nodeAt ds is m ≠ q := by
      unfold nodeAt; rw [hx]; exact fun e => hc (cmpI_zero.2 e)
    unfold nodeAt at *
    omega

set_option maxHeartbeats 800000 in
theorem bsearch_any (vb mb mo D n I : Nat) (q : Int) (ds : List (Int × Int)) (is : List Int) (w : World) (hv : w.cell? ⟨vb, 0, none⟩ = some (.pointer (some ⟨mb, mo, none⟩))) (hm : MsgAt w mb mo D n ds)
    (hc : ∀ j, j < n → w.cell? ⟨I, j, none⟩ = some (.int .i32 (ix is j))) (hok : IdxOk n ds is) :
    Calls Tryf.prog 28 #[.slice (some ⟨I, 0, none⟩) n n, .int .i64 q, .func (.func 29) #[] #[.pointer (some ⟨vb, 0, none⟩)]] w fun e w' => Seeks n (nodeAt ds is) q e ∧ w' = w := by
  have h3 := hm.small
  have HO : Hid (IdxOk n ds is) := hok
  clear hok
  go_enter Tryf.func28, Tryf.ntmps28
  go_wp2
  go_loop [9, 10] (fun vi vh => ∃ i h : Nat, i ≤ h ∧ h ≤ n ∧ vi = .int .i64 i ∧ vh = .int .i64 h ∧ (∀ j, j < i → nodeAt ds is j < q) ∧ (∀ j, h ≤ j → j < n → q ≤ nodeAt ds is j)) (fun vi vh => (intOf vh).toNat - (intOf vi).toNat)
  case atStart => exact ⟨0, n, by omega, by omega, rfl, rfl, fun j hj => by omega, fun j h1 h2 => by omega⟩
  case round =>
    obtain ⟨i, h, h1, h2, rfl, rfl, hlt, hge⟩ := hrel
    by_cases hh : i < h
    · have hcell := hc ((i + h) / 2) (by omega)
      obtain ⟨x, hx, hxl⟩ := HO.out.rng ((i + h) / 2) (by omega)
      rw [hx] at hcell
      go_wp2_with fail
      refine (cmpAt_any vb mb mo D n x q ds w hv hm hxl).mono ?_
      rintro e w1 ⟨rfl, rfl⟩
      by_cases hcm : cmpI (nd ds x) q < 0
      · go_wp2
        go_round
        case rel => exact ⟨(i + h) / 2 + 1, h, by omega, by omega, by go_num, rfl, seek_lo HO.out hx (by omega) hcm, hge⟩
        case measure => simp [intOf]; omega
      · go_wp2
        go_round
        case rel => exact ⟨i, (i + h) / 2, by omega, by omega, rfl, by go_num, hlt, seek_hi HO.out hx (by omega)⟩
        case measure => simp [intOf]; omega
    · obtain rfl : i = h := by omega
      by_cases h0 : i < n
      · have hcell := hc i h0
        obtain ⟨x, hx, hxl⟩ := HO.out.rng i h0
        rw [hx] at hcell
        go_wp2_with fail
        refine (cmpAt_any vb mb mo D n x q ds w hv hm hxl).mono ?_
        rintro e w1 ⟨rfl, rfl⟩
        go_wp2
        go_ret2
        refine ⟨⟨i, _, rfl, fun hb => ⟨h0, ?_⟩, fun hb => ?_⟩, rfl⟩
        · exact seek_found hx (by simpa using hb)
        · exact seek_none HO.out hx h0 hlt (by simpa using hb) hge
      · go_wp2
        go_ret2
        exact ⟨⟨i, _, rfl, fun hb => by simp at hb, fun _ j hj => by have := hlt j (by omega); omega⟩, rfl⟩

theorem MsgAt.below {w w' : World} {mb mo D n : Nat} {ds : List (Int × Int)} (h : MsgAt w mb mo D n ds) (hb : Below w.heap.size w w') : MsgAt w' mb mo D n ds :=
  ⟨h.len, (hb.cell (World.block_lt_of_cell? _ _ h.fld)).trans h.fld, fun j hj => (hb.cell (World.block_lt_of_cell? _ _ (h.node j hj))).trans (h.node j hj), fun j hj => (hb.cell (World.block_lt_of_cell? _ _ (h.seq j hj))).trans (h.seq j hj), h.small⟩

theorem search_any (mb mo D n I : Nat) (q : Int) (ds : List (Int × Int)) (is : List Int) (w : World) (hm : MsgAt w mb mo D n ds)
    (hc : ∀ j, j < n → w.cell? ⟨I, j, none⟩ = some (.int .i32 (ix is j))) (hok : IdxOk n ds is) :
    Calls Tryf.prog 27 #[.pointer (some ⟨mb, mo, none⟩), .slice (some ⟨I, 0, none⟩) n n, .int .i64 q] w fun e w' => Seeks n (nodeAt ds is) q e ∧ w' = w.alloc (.cells #[.pointer (some ⟨mb, mo, none⟩)] 70) := by
  have hm' : MsgAt (w.alloc (.cells #[.pointer (some ⟨mb, mo, none⟩)] 70)) mb mo D n ds := hm.below ((Below.refl _ w).alloc (Nat.le_refl _) _)
  have hc' : ∀ j, j < n → (w.alloc (.cells #[.pointer (some ⟨mb, mo, none⟩)] 70)).cell? ⟨I, j, none⟩ = some (.int .i32 (ix is j)) := fun j hj => (World.cell?_alloc_past _ _ _ (World.block_lt_of_cell? _ _ (hc j hj))).trans (hc j hj)
  have hv : (w.alloc (.cells #[.pointer (some ⟨mb, mo, none⟩)] 70)).cell? ⟨w.heap.size, 0, none⟩ = some (.pointer (some ⟨mb, mo, none⟩)) := World.cell?_alloc_at _ _ _ _ rfl
  go_enter Tryf.func27, Tryf.ntmps27
  go_wp2_with fail
  refine (bsearch_any w.heap.size mb mo D n I q ds is _ hv hm' hc' hok).mono ?_
  rintro e w1 ⟨⟨p, b, rfl, h1, h2⟩, rfl⟩
  go_wp2
  go_ret2
  exact ⟨⟨p, b, rfl, h1, h2⟩, rfl⟩
end Go.Proofs.Qxb6616309aFmt
