/-
  THE WALK of 'b1Orders'.
-/
import Derived.Test.Qxb6616309aFmtModel
import Derived.Test.Qxb6616309aFmtSame
namespace Go.Proofs.Qxb6616309aFmt
open Go.RowKit

/-- the steps, read -/
def RdS (w : World) (a : Option Addr) (k : Nat) (f g : Nat → Nat) : Prop :=
  ∀ i, i < k → ∃ b off, a = some ⟨b, off, none⟩ ∧ b < w.heap.size ∧ ∀ i, i < k → w.cell? ⟨b, off + i * 2, none⟩ = some (.int .i64 (f i : Nat)) ∧ w.cell? ⟨b, off + i * 2 + 1, none⟩ = some (.int .i64 (g i : Nat))
theorem RdS.below {w w' : World} {a : Option Addr} {k : Nat} {f g : Nat → Nat} (h : RdS w a k f g) (hb : Below w.heap.size w w') : RdS w' a k f g := by
  intro i hi
  obtain ⟨b, off, e, hlt, hc⟩ := h i hi
  exact ⟨b, off, e, Nat.lt_of_lt_of_le hlt hb.size, fun j hj => ⟨(hb.cell (p := ⟨b, off + j * 2, none⟩) hlt).trans (hc j hj).1, (hb.cell (p := ⟨b, off + j * 2 + 1, none⟩) hlt).trans (hc j hj).2⟩⟩

theorem zero28 (w : World) : (zeroValue 28).run Tryf.prog w = .ok (.agg (Array.replicate 256 (.int .i64 0))) w := by kernel_rfl

theorem neg_step (i j : Nat) : (if j = i then Value.int .i64 (-1) else Value.int .i64 (if j < i then -1 else 0)) = Value.int .i64 (if j < i + 1 then -1 else 0) := by
  by_cases h : j = i
  · subst h; rw [if_pos rfl, if_pos (by omega)]
  · rw [if_neg h]
    by_cases h2 : j < i
    · rw [if_pos h2, if_pos (by omega)]
    · rw [if_neg h2, if_neg (by omega)]
theorem pl_new {g : Nat → Nat} {i : Nat} (h : (plAt g i).of (g i) < 0) : plAt g (i + 1) = ⟨upd (plAt g i).of (g i) ((plAt g i).nx : Int), (plAt g i).nx + 1⟩ ∧ plOf g i = (plAt g i).nx := by
  have e : plAt g (i + 1) = ⟨upd (plAt g i).of (g i) ((plAt g i).nx : Int), (plAt g i).nx + 1⟩ := by
    show plStep (plAt g i) (g i) = _
    unfold plStep; rw [if_pos h]
  refine ⟨e, ?_⟩
  unfold plOf; rw [e]; simp [upd]
theorem pl_old {g : Nat → Nat} {i : Nat} (h : ¬ (plAt g i).of (g i) < 0) : plAt g (i + 1) = plAt g i ∧ (plAt g i).of (g i) = (plOf g i : Int) := by
  have e : plAt g (i + 1) = plAt g i := by
    show plStep (plAt g i) (g i) = _
    unfold plStep; rw [if_neg h]
  refine ⟨e, ?_⟩
  have := (plOf_lt g i).2
  rw [e] at this
  exact this

theorem upd_cell (f : Nat → Int) (m : Nat) (x : Int) (j : Nat) : (if j = m then Value.int .i64 x else Value.int .i64 (f j)) = Value.int .i64 (upd f m x j) := by unfold upd; split <;> rfl
theorem rowOf_set (os : List (List Int)) (q p : Nat) (r : List Int) (hq : q < os.length) : rowOf (os.set q r) p = if p = q then r else rowOf os p := by
  unfold rowOf
  by_cases h : p = q
  · subst h; rw [if_pos rfl]; simp [hq]
  · rw [if_neg h, List.getElem?_set_ne (fun e => h e.symm)]
theorem ord_len_le (f g : Nat → Nat) (n i p : Nat) : lenOf (ordAt f g n i) p ≤ i := by
  induction i with
  | zero =>
    unfold lenOf rowOf ordAt
    by_cases h : p < n <;> simp [h]
  | succ i ih =>
    unfold ordAt ordStep
    split
    · omega
    · by_cases hq : f i < (ordAt f g n i).length
      · unfold lenOf
        rw [rowOf_set _ _ _ _ hq]
        split
        · rename_i h
          subst h
          have : (rowOf (ordAt f g n i) (f i)).length ≤ i := ih
          simp; omega
        · have : (rowOf (ordAt f g n i) p).length ≤ i := ih
          omega
      · rw [List.set_eq_of_length_le (by omega)]; omega
theorem mem_ix {zs : List Int} {x : Int} : x ∈ zs ↔ ∃ j, j < zs.length ∧ ix zs j = x := by
  constructor
  · intro h
    obtain ⟨j, hj, rfl⟩ := List.getElem_of_mem h
    exact ⟨j, hj, by unfold ix; simp [hj]⟩
  · rintro ⟨j, hj, rfl⟩
    unfold ix
    simp [hj]
theorem keep_set_alloc {S : Nat → Prop} (w : World) (a : Addr) (v : Value) (o : Obj) (hS : S a.block) : Keep S (w.alloc o) ((w.setCell a v).alloc o) := by
  have hsz : (w.setCell a v).heap.size = w.heap.size := by simp [World.setCell]
  refine ⟨rfl, rfl, rfl, by simp [hsz], fun k hk hs => ?_⟩
  by_cases h : k < w.heap.size
  · rw [heap_alloc_old _ _ (by omega), heap_alloc_old _ _ h]
    exact Below.heap_setCell w a v k (by rintro rfl; exact hs hS)
  · have : k = w.heap.size := by simp at hk; omega
    subst this
    have h1 := Deep.blk_alloc_new (w.setCell a v) o
    rw [hsz] at h1
    rw [h1, Deep.blk_alloc_new]

theorem nest_made {B n : Nat} {w : World} {ob : Nat} (h : w.rowIs ob 58 n (fun _ => .slice none 0 0)) (hB : B ≤ ob) (hn : n ≤ 65536) : Nest EI 58 3 1 B w (.slice (some ⟨ob, 0, none⟩) n n) (List.replicate n []) (fun _ => .slice none 0 0) := by
  obtain ⟨c, hc, hs, hcell⟩ := h
  refine ⟨?_, fun i hi => ?_, fun i j _ _ _ g hg => by simp [Value.ownBlock] at hg⟩
  · refine ⟨by simp, .inr ⟨ob, n, c, by simp, hB, hc, by simp, by unfold maxLen; omega, by omega, ?_⟩⟩
    apply List.ext_getElem?
    intro i
    simp only [List.length_replicate, Nat.mul_one, List.getElem?_take, List.getElem?_map]
    by_cases hi : i < n
    · rw [if_pos hi, List.getElem?_range hi]
      simpa using hcell i hi
    · rw [if_neg hi]
      simp [hi]
  · simp at hi
    simp [hi, EI]
    exact World.ownsRow_nil _ _ _ _

set_option maxRecDepth 100000 in
set_option maxHeartbeats 4000000 in
theorem orders_any (k c n : Nat) (a : Option Addr) (f g : Nat → Nat) (w : World) (hr : RdS w a k f g) (hk : k ≤ 256) (hn : n ≤ 256) (hf : ∀ i, i < k → f i < n) (hg : ∀ i, i < k → g i < 256) :
    Calls Tryf.prog 13 #[.slice a k c, .int .i64 n] w fun e w' => ∃ ob V, e = .returned (.slice (some ⟨ob, 0, none⟩) n n) ∧ Nest EI 58 3 1 w.heap.size w' (.slice (some ⟨ob, 0, none⟩) n n) (ordAt f g n k) V ∧ Below w.heap.size w w' := by
  have HS : Hid (RdS w a k f g) := hr
  clear hr
  have hal := zero28
  have hmk := make40 n (by omega)
  go_enter Tryf.func13, Tryf.ntmps13
  go_wp2
  clear hal
  go_loopw [6] (fun vi wr => ∃ i : Nat, i ≤ 256 ∧ vi = .int .i64 i ∧ wr.rowIs w.heap.size 28 256 (fun j => .int .i64 (if j < i then -1 else 0)) ∧ Below w.heap.size w wr) (fun vi _ => 256 - (intOf vi).toNat)
  case atStart => exact ⟨0, by omega, rfl, World.rowIs_alloc w (Array.replicate 256 (.int .i64 0)) 28 _ (fun i hi => by simp at hi; simp [hi]), (Below.refl _ _).alloc (Nat.le_refl _) _⟩
  case round =>
    obtain ⟨i, hi, rfl, hrow, hb⟩ := hrel
    obtain ⟨w1, rfl⟩ : ∃ x : World, x = wr := ⟨_, rfl⟩
    by_cases hi2 : i < 256
    · have ci := hrow.cell hi2
      have fi := hrow.frozen i
      go_wp2
      go_roundw
      case rel => exact ⟨i + 1, by omega, by go_num, (hrow.set i _).congr (fun j _ => neg_step i j), hb.setCell (Nat.le_refl _) _⟩
      case measure => simp [intOf]; omega
    · have hi3 : i = 256 := by omega
      have HROW : Hid (w1.rowIs w.heap.size 28 256 (fun j => .int .i64 ((plAt g 0).of j))) := hrow.congr fun j hj => by rw [if_pos (by omega)]; rfl
      have HB : Hid (Below w.heap.size w w1) := hb
      have lw := hrow.lt
      clear hrow hb
      clear hi3 hi
      go_wp2
      clear hmk hi2
      go_loopw [7, 9] (fun v7 vi wr => ∃ (i : Nat) (V : Nat → Value), i ≤ k ∧ vi = .int .i64 i ∧ v7 = .int .i64 ((plAt g i).nx : Nat) ∧ wr.rowIs w.heap.size 28 256 (fun j => .int .i64 ((plAt g i).of j)) ∧ Nest EI 58 3 1 w.heap.size wr (.slice (some ⟨w1.heap.size, 0, none⟩) n n) (ordAt f g n i) V ∧ Below w.heap.size w wr) (fun _ vi _ => k - (intOf vi).toNat)
      case atStart => exact ⟨0, _, by omega, rfl, rfl, HROW.out.alloc _, nest_made (World.rowIs_made w1 _ n 58) HB.out.size (by omega), HB.out.alloc HB.out.size _⟩
      case round =>
        obtain ⟨i, V, hi, rfl, rfl, hrow, hN, hb⟩ := hrel
        obtain ⟨wo, rfl⟩ : ∃ x : World, x = wr := ⟨_, rfl⟩
        by_cases hik : i < k
        · obtain ⟨b, off, rfl, hlt, hc⟩ := (RdS.below HS.out hb) i hik
          obtain ⟨e1, e2⟩ := hc i hik
          have hgi := hg i hik
          have hfi := hf i hik
          have lo := hrow.lt
          have HR : Hid (wo.rowIs w.heap.size 28 256 (fun j => .int .i64 ((plAt g i).of j))) := hrow
          have HNE : Hid (Nest EI 58 3 1 w.heap.size wo (.slice (some ⟨w1.heap.size, 0, none⟩) n n) (ordAt f g n i) V) := hN
          have HBO : Hid (Below w.heap.size w wo) := hb
          have rg := plAt_range g i
          have cg := hrow.cell hgi
          have fg := hrow.frozen (g i)
          clear hc hrow hN hb
          go_upto_if 35 with fail
          have row2 := HR.out.alloc (.cells #[.int .i64 (f i : Nat), .int .i64 (g i : Nat)] 26)
          go_cut [7, 11] (fun v7 v11 wc => v7 = .int .i64 ((plAt g (i + 1)).nx : Nat) ∧ v11 = .int .i64 (plOf g i : Nat) ∧ wc.rowIs w.heap.size 28 256 (fun j => .int .i64 ((plAt g (i + 1)).of j)) ∧ Keep (fun k => k = w.heap.size) (wo.alloc (.cells #[.int .i64 (f i : Nat), .int .i64 (g i : Nat)] 26)) wc)
          case first =>
            by_cases hp : (plAt g i).of (g i) < 0
            · obtain ⟨q1, q2⟩ := pl_new hp
              have HQ1 : Hid _ := q1
              have HQ2 : Hid _ := q2
              clear q1 q2
              go_wp2
              go_meet
              case rel =>
                rw [HQ1.out, HQ2.out]
                refine ⟨by go_num, rfl, ?_, keep_set_alloc (S := fun k => k = w.heap.size) wo ⟨w.heap.size, g i, none⟩ _ _ rfl⟩
                exact ((HR.out.set (g i) _).alloc _).congr fun j _ => upd_cell _ _ _ _
            · obtain ⟨q1, q2⟩ := pl_old hp
              have HQ1 : Hid _ := q1
              have HQ2 : Hid _ := q2
              clear q1 q2
              go_wp2
              go_meet
              case rel =>
                rw [HQ1.out, HQ2.out]
                exact ⟨rfl, rfl, row2, Keep.refl _ _⟩
          case rest =>
            obtain ⟨rfl, rfl, hrow3, hk3⟩ := hcut
            obtain ⟨w3, rfl⟩ : ∃ x : World, x = wc := ⟨_, rfl⟩
            have hbw3 : Below w.heap.size w w3 := (HBO.out.alloc HBO.out.size _).trans (hk3.below (by have := HBO.out.size; simp; omega) (fun k h => by omega))
            have hN3 : Nest EI 58 3 1 w.heap.size w3 (.slice (some ⟨w1.heap.size, 0, none⟩) n n) (ordAt f g n i) V := (HNE.out.alloc _).keep hk3 (by
              rintro k' c' t' fr' he ht rfl
              obtain ⟨c1, h1, _⟩ := row2
              rw [h1] at he
              cases he
              rcases ht with ht | ht <;> exact absurd ht (by decide))
            have s0 : w3.cell? ⟨wo.heap.size, 0, none⟩ = some (.int .i64 (f i : Nat)) := (World.cell?_of_block (a := ⟨wo.heap.size, 0, none⟩) (hk3.block wo.heap.size (by simp) (by show ¬ (wo.heap.size = w.heap.size); omega))).trans (World.cell?_alloc_at _ _ _ _ rfl)
            have HS26 : Hid (w3.heap[wo.heap.size]? = some (.cells #[.int .i64 (f i : Nat), .int .i64 (g i : Nat)] 26 (0, 0))) := (hk3.block wo.heap.size (by simp) (by show ¬ (wo.heap.size = w.heap.size); omega)).trans (Deep.blk_alloc_new _ _)
            have hlen := ordAt_length f g n i
            obtain ⟨ob', ai, ci, hob, hol, hoc, hin, hVi⟩ := nest_read hN3 hlen hfi
            cases hob
            have hrd := rd_of_own hin
            have hlo : lenOf (ordAt f g n i) (f i) ≤ 256 := by have := ord_len_le f g n i (f i); omega
            have HN3 : Hid (Nest EI 58 3 1 w.heap.size w3 (.slice (some ⟨w1.heap.size, 0, none⟩) n n) (ordAt f g n i) V) := hN3
            have HBW3 : Hid (Below w.heap.size w w3) := hbw3
            have HROW3 : Hid (w3.rowIs w.heap.size 28 256 (fun j => .int .i64 ((plAt g (i + 1)).of j))) := hrow3
            have HIN : Hid (w3.ownsRow w.heap.size 3 1 (.slice ai (lenOf (ordAt f g n i) (f i)) ci) (lenOf (ordAt f g n i) (f i)) (EI (rowOf (ordAt f g n i) (f i)))) := hin
            clear hN3 hbw3 hrow3 hk3 hin row2 cg fg e1 e2
            go_wp2_with fail
            refine (has_any _ _ _ (rowOf (ordAt f g n i) (f i)) _ _ hrd (by omega)).mono ?_
            rintro e w4 ⟨⟨r, rfl, h1, h2⟩, rfl⟩
            cases r with
            | true =>
              have HST : Hid (ordAt f g n (i + 1) = ordAt f g n i) := by
                show ordStep (ordAt f g n i) (f i) (plOf g i) = ordAt f g n i
                unfold ordStep
                rw [if_pos (mem_ix.2 (h1 rfl))]
              clear h1 h2
              go_wp2
              go_roundw
              case rel =>
                refine ⟨i + 1, V, by omega, by go_num, rfl, HROW3.out, ?_, HBW3.out⟩
                rw [HST.out]
                exact HN3.out
              case measure => simp [intOf]; omega
            | false =>
              have HST : Hid (ordAt f g n (i + 1) = (ordAt f g n i).set (f i) (rowOf (ordAt f g n i) (f i) ++ [(plOf g i : Int)])) := by
                show ordStep (ordAt f g n i) (f i) (plOf g i) = _
                unfold ordStep
                rw [if_neg (fun h => by obtain ⟨j, hj, e⟩ := mem_ix.1 h; exact h2 rfl j hj e)]
              clear h1 h2 hrd
              have y1 : (0 : Int) ≤ (f i : Int) := by omega
              have y2 : (f i : Int) < (n : Int) := by omega
              have hws := HBW3.out.size
              have l1 := World.block_lt_of_cell? _ _ s0
              have of : w4.frozen? ⟨w1.heap.size, f i, none⟩ = false := by
                obtain ⟨g0, hg0, _, _, _, _, h⟩ := Nest.cell (a := some ⟨w1.heap.size, 0, none⟩) (by rw [hlen]; exact HN3.out) (i := f i) (by omega)
                cases hg0
                exact h
              have far1 : (Value.slice ai (lenOf (ordAt f g n i) (f i)) ci).ownBlock ≠ some wo.heap.size := fun e => by
                obtain ⟨c2, t2, f2, e2, m2⟩ := own_in (T := [3]) HIN.out (by simp) _ e
                rw [HS26.out] at e2
                cases e2
                exact absurd m2 (by decide)
              have far3 : (Value.slice ai (lenOf (ordAt f g n i) (f i)) ci).ownBlock ≠ some w1.heap.size := fun e => by
                obtain ⟨c1, t1, f1, e1, m1⟩ := own_in (T := [58]) HN3.out.outer (by simp) w1.heap.size rfl
                obtain ⟨c2, t2, f2, e2, m2⟩ := own_in (T := [3]) HIN.out (by simp) _ e
                rw [e1] at e2
                cases e2
                simp at m1 m2
                rw [m1] at m2
                exact absurd m2 (by decide)
              obtain ⟨i0, hi0, hz0, hz1, hz2⟩ := info_parts z3
              go_wp2
              go_region_law
                ((refine step_append_old (by rfl) _ _ _ (by rfl) w.heap.size 3 i0 _ 1 8 Tryf.underlying58 hi0 hz0 hz1 hz2 rfl (by omega) (.slice ai (lenOf (ordAt f g n i) (f i)) ci) (lenOf (ordAt f g n i) (f i)) (EI (rowOf (ordAt f g n i) (f i))) (by rfl) ((HIN.out.alloc _).drew)
                      ⟨w4.heap.size, 0, none⟩ 1 1 [.int .i64 (plOf g i : Nat)] (by rfl) (by rfl) (World.news_of_block (cs := #[.int .i64 (plOf g i : Nat)]) (t := 3) (fr := (0, 0)) (heap_alloc_new w4 _)) (by intro u hu; simp at hu; subst hu; rfl)
                      (by unfold maxLen; omega) (by omega) (by simp; omega) ?_; intro a' c' w5 hown1 hgrow hat hold;
                  have oc2 : w5.cell? ⟨w1.heap.size, f i, none⟩ = some (.slice ai (lenOf (ordAt f g n i) (f i)) ci) := ((hgrow.cell_far ⟨w1.heap.size, f i, none⟩ (by simp; omega) (Ne.symm far3)).trans ((cell_alloc_past w4 _ ⟨w1.heap.size, f i, none⟩ hol).trans hoc));
                  have of2 : w5.frozen? ⟨w1.heap.size, f i, none⟩ = false := ((hgrow.frozen_far ⟨w1.heap.size, f i, none⟩ (by simp; omega) (Ne.symm far3)).trans ((frozen_alloc_past w4 _ ⟨w1.heap.size, f i, none⟩ hol).trans of));
                  have s02 : w5.cell? ⟨wo.heap.size, 0, none⟩ = some (.int .i64 (f i : Nat)) := ((hgrow.cell_far ⟨wo.heap.size, 0, none⟩ (by simp; omega) (Ne.symm far1)).trans ((cell_alloc_past w4 _ ⟨wo.heap.size, 0, none⟩ l1).trans s0))))
              all_goals
                go_wp2
                go_roundw
                case rel =>
                  have hp := push_world (S := fun k => w.heap.size ≤ k) (w := w4) (wa := (w4.drew.alloc (.cells #[.int .i64 (plOf g i : Nat)] 3))) ((HN3.out.drewN 1).alloc _) hlen hfi rfl hVi hown1 hgrow hat hold (((Keep.refl _ w4).drewN 1).alloc _) (Or.inl (by show w.heap.size ≤ w1.heap.size; omega)) (fun g0 hg0 => Or.inl ((HN3.out.inner (f i) (by omega)).lt g0 hg0).1)
                  have hp2 := push_world (S := tyS w4 [58, 3]) (w := w4) (wa := (w4.drew.alloc (.cells #[.int .i64 (plOf g i : Nat)] 3))) ((HN3.out.drewN 1).alloc _) hlen hfi rfl hVi hown1 hgrow hat hold (((Keep.refl _ w4).drewN 1).alloc _) (Or.inl (own_in HN3.out.outer (by simp) _ rfl)) (fun g0 hg0 => Or.inl (own_in (HN3.out.inner (f i) (by omega)) (by simp) g0 hg0))
                  obtain ⟨⟨V', hn5⟩, hk5, _⟩ := hp
                  refine ⟨i + 1, V', by omega, by go_num, rfl, ?_, ?_, ?_⟩
                  · exact hp2.2.1.row HROW3.out (row_notin HROW3.out (by decide))
                  · rw [HST.out]; exact hn5
                  · exact HBW3.out.trans (hk5.below hws (fun k h => h))
                case measure => simp [intOf]; omega
        · obtain rfl : i = k := by omega
          go_wp2
          go_ret
          exact ⟨w1.heap.size, V, rfl, hN, hb⟩
end Go.Proofs.Qxb6616309aFmt
