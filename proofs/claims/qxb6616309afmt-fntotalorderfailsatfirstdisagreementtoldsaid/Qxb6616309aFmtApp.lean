/-
  'append' ONTO A SLICE OF THE CALL'S OWN, AND WHAT THE OLD SLICE STILL READS: at a step of a region that draws, and at a plain region's list.
-/
import Derived.Test.Qxb6616309aFmtMem
import Derived.Deep.RegionLaw
namespace Go.Proofs.Qxb6616309aFmt
open Go.RowKit

theorem own_prefix {w : World} {B e size n m : Nat} {g cap : Nat} {xs news : List Value} (hx : xs.length = n * size) (h : w.ownsRow B e size (.slice (some ⟨g, 0, none⟩) (n + m) cap) (n + m) (xs ++ news)) :
    w.ownsRow B e size (.slice (some ⟨g, 0, none⟩) n cap) n xs := by
  rcases h.2 with ⟨h, _⟩ | ⟨g', cap', cur, hv, hb, hg, hnc, hcm, hcs, htake⟩
  · simp at h
  · simp only [Value.slice.injEq, Option.some.injEq, Addr.mk.injEq, and_true, true_and] at hv
    obtain ⟨rfl, rfl⟩ := hv
    refine ⟨hx, .inr ⟨g, cap, cur, rfl, hb, hg, by omega, hcm, hcs, ?_⟩⟩
    have e1 : cur.toList.take (n * size) = (cur.toList.take ((n + m) * size)).take (n * size) := by
      rw [List.take_take, Nat.min_eq_left (Nat.mul_le_mul_right _ (by omega))]
    rw [e1, htake, ← hx]
    exact List.take_left

theorem run_append_old {P : Program} (w : World) (B : Nat) (t ty e : TypeId) (i : TypeInfo) (z : Value) (size bytes : Nat) (ht : P.underlying t = some (.slice e)) (hi : P.info? e = some i) (hz : i.zero = some z)
    (hsize : i.size = size) (hby : i.bytes = bytes) (hzs : z.cells.size = size) (hsz : 0 < size)
    (v : Value) (n : Nat) (xs : List Value) (hown : w.ownsRow B e size v n xs)
    (a : Addr) (m c : Nat) (news : List Value) (hl : news.length = m * size) (hnews : ∀ j u, news[j]? = some u → w.cell? (a.add j) = some u) (h1 : ∀ u ∈ news, u.oneCell' = true)
    (h63 : n + m ≤ maxLen) (hbytes : (n + m) * bytes ≤ 140737488355328) (hB : B ≤ w.heap.size) :
    ∃ v' w', (Builtin.append_ #[t, t] ty #[v, .slice (some a) m c]).run P w = .ok v' w' ∧ w'.ownsRow B e size v' (n + m) (xs ++ news) ∧ w.grownBy w' v.ownBlock ∧
      (v'.ownBlock = v.ownBlock ∨ ∃ g, v'.ownBlock = some g ∧ w.heap.size ≤ g) ∧ w'.ownsRow B e size v n xs := by
  have hown0 := hown
  have mono : ∀ {w' : World} {v' : Value} {k : Nat} {ys : List Value}, w'.ownsRow w.heap.size e size v' k ys → w'.ownsRow B e size v' k ys := by
    intro w' v' k ys h
    refine ⟨h.1, ?_⟩
    rcases h.2 with hn | ⟨g, cap, cur, hv, hb, rest⟩
    · exact .inl hn
    · exact .inr ⟨g, cap, cur, hv, by omega, rest⟩
  have hfar : ∀ {w' : World} {v' : Value} {k : Nat} {ys : List Value}, w'.ownsRow w.heap.size e size v' k ys → 0 < k → ∃ g, v'.ownBlock = some g ∧ w.heap.size ≤ g := by
    intro w' v' k ys h hk
    rcases h.2 with ⟨_, h0⟩ | ⟨g, cap, cur, rfl, hb, _⟩
    · omega
    · exact ⟨g, rfl, hb⟩
  rcases hown.2 with ⟨rfl, rfl⟩ | ⟨g, cap, cur, rfl, hbg, hg, hnc, hcm, hcs, htake⟩
  · obtain rfl : xs = [] := List.eq_nil_of_length_eq_zero (by simpa using hown.1)
    obtain ⟨v', w', hr, h2, h3, h4⟩ := run_append_own (P := P) w w.heap.size t ty e i z size bytes ht hi hz hsize hby hzs hsz (.slice none 0 0) 0 [] (World.ownsRow_nil _ _ _ _) a m c news hl hnews h1 h63 hbytes (Nat.le_refl _)
    refine ⟨v', w', hr, mono h2, h3, ?_, World.ownsRow_nil _ _ _ _⟩
    by_cases hm : m = 0
    · left; rw [h4.2 ⟨rfl, hm⟩]
    · right; exact hfar h2 (by omega)
  · by_cases hroom : n + m ≤ cap
    · obtain ⟨w', hr, h2, h3⟩ := run_append_fits (P := P) w B t ty e i size ht hi hsize g n cap xs hown a m c news hl hnews h1 hroom
      exact ⟨_, w', hr, h2, h3, Or.inl rfl, own_prefix hown.1 h2⟩
    · have holds : ∀ j u, xs[j]? = some u → w.cell? ((⟨g, 0, none⟩ : Addr).add j) = some u := hown.cells (g := g) rfl
      obtain ⟨v', w', hr, h2, h3⟩ := run_append_arg_grows (P := P) w t ty e i z size bytes ht hi hz hsize hby hzs hsz ⟨g, 0, none⟩ n cap xs hown.1 holds a m c news hl hnews (by omega) h63 hbytes
      exact ⟨v', w', hr, mono h2, ⟨h3.os, h3.tape, h3.output, h3.size, fun k hk _ => h3.block k hk (by simp)⟩, Or.inr (hfar h2 (by omega)), hown0.kept h3 (Or.inr (by simp [Value.ownBlock]))⟩

theorem step_append_old {P : Program} {ops : Array Oper} {o : Oper} {a : Act} {w : World} {K : Act → World → Prop} {Q : Exit → Act → World → Prop} {E : Prop}
    (hg : o.guard = none) (s x : Operand) (t : TypeId) (hop : o.op = Op.call { callee := Callee.builtin Builtin.append, args := #[s, x], argTypes := #[t, t] })
    (B : Nat) (e : TypeId) (i : TypeInfo) (z : Value) (size bytes : Nat) (h1 : P.underlying t = some (.slice e)) (h2 : P.info? e = some i) (h3 : i.zero = some z) (h4 : i.size = size) (h5 : i.bytes = bytes) (h6 : z.cells.size = size) (h7 : 0 < size)
    (v : Value) (n : Nat) (xs : List Value) (hs : a.eval s = v) (hown : w.ownsRow B e size v n xs)
    (ad : Addr) (m c : Nat) (news : List Value) (hx : a.eval x = .slice (some ad) m c) (hn : news.length = m * size) (hc : ∀ j u, news[j]? = some u → w.cell? (ad.add j) = some u) (h1c : ∀ u ∈ news, u.oneCell' = true)
    (b1 : n + m ≤ maxLen) (b2 : (n + m) * bytes ≤ 140737488355328) (hB : B ≤ w.heap.size)
    (hK : ∀ a' c' w', w'.ownsRow B e size (.slice a' (n + m) c') (n + m) (xs ++ news) → w.grownBy w' v.ownBlock → ((Value.slice a' (n + m) c').ownBlock = v.ownBlock ∨ ∃ g, (Value.slice a' (n + m) c').ownBlock = some g ∧ w.heap.size ≤ g) → w'.ownsRow B e size v n xs → K (a.put o.dst (.slice a' (n + m) c')) w') :
    if Region.wanted o (yielded ops a.tmps) = true then Oper.wp P o a w K Q else E := by
  have hw : Region.wanted o (yielded ops a.tmps) = true := by simp [Region.wanted, hg]
  rw [if_pos hw]
  obtain ⟨v', w', hrun, r1, r2, r3, r4⟩ := run_append_old (P := P) w B t o.type e i z size bytes h1 h2 h3 h4 h5 h6 h7 v n xs hown ad m c news hn hc h1c b1 b2 hB
  obtain ⟨a', c', rfl, _⟩ := own_form r1
  unfold Oper.wp
  simp [execOp, hop, resolve, invoke, builtin, hs, hx, hrun, Result.andThen]
  exact hK a' c' w' r1 r2 r3 r4

theorem wpList_append_old {P : Program} (w : World) {ops : Array Oper} {rest : List Oper} {o : Oper} {a : Act} {Q : Exit → Act → World → Prop} (hgd : o.guard = none) (s x : Operand) (t : TypeId)
    (ho : o.op = .call { callee := .builtin .append, args := #[s, x], argTypes := #[t, t] })
    (B : Nat) (e : TypeId) (i : TypeInfo) (z : Value) (size bytes : Nat) (ht : P.underlying t = some (.slice e)) (hi : P.info? e = some i) (hz : i.zero = some z)
    (hsize : i.size = size) (hby : i.bytes = bytes) (hzs : z.cells.size = size) (hsz : 0 < size)
    (v : Value) (n : Nat) (xs : List Value) (hs : a.eval s = v) (hown : w.ownsRow B e size v n xs)
    (ad : Addr) (m c : Nat) (news : List Value) (hx : a.eval x = .slice (some ad) m c) (hl : news.length = m * size) (hnews : ∀ j u, news[j]? = some u → w.cell? (ad.add j) = some u) (h1 : ∀ u ∈ news, u.oneCell' = true)
    (h63 : n + m ≤ maxLen) (hbytes : (n + m) * bytes ≤ 140737488355328) (hB : B ≤ w.heap.size)
    (h : ∀ a' c' w', w'.ownsRow B e size (.slice a' (n + m) c') (n + m) (xs ++ news) → w.grownBy w' v.ownBlock → ((Value.slice a' (n + m) c').ownBlock = v.ownBlock ∨ ∃ g, (Value.slice a' (n + m) c').ownBlock = some g ∧ w.heap.size ≤ g) → w'.ownsRow B e size v n xs → wpList P ops Q rest (a.put o.dst (.slice a' (n + m) c')) w') : wpList P ops Q (o :: rest) a w := by
  refine wpList_plain hgd fun K hK => ?_
  obtain ⟨v', w', hrun, r1, r2, r3, r4⟩ := run_append_old (P := P) w B t o.type e i z size bytes ht hi hz hsize hby hzs hsz v n xs hown ad m c news hl hnews h1 h63 hbytes hB
  obtain ⟨a', c', rfl, _⟩ := own_form r1
  unfold Oper.wp
  simp [execOp, ho, resolve, invoke, builtin, hs, hx, hrun, Result.andThen]
  exact hK _ _ (h a' c' w' r1 r2 r3 r4)

theorem z3 : (Tryf.prog.info? 3).map (fun i => (i.zero, i.size, i.bytes)) = some (some (.int .i64 0), 1, 8) := by kernel_rfl
theorem z45 : (Tryf.prog.info? 45).map (fun i => (i.zero, i.size, i.bytes)) = some (some (.agg #[.int .i64 0, .int .i64 0]), 2, 16) := by kernel_rfl
theorem z43 : (Tryf.prog.info? 43).map (fun i => (i.zero, i.size, i.bytes)) = some (some (.slice none 0 0), 1, 24) := by kernel_rfl
theorem z58 : (Tryf.prog.info? 58).map (fun i => (i.zero, i.size, i.bytes)) = some (some (.slice none 0 0), 1, 24) := by kernel_rfl
theorem z21 : (Tryf.prog.info? 21).map (fun i => (i.zero, i.size, i.bytes)) = some (some (.int .i32 0), 1, 4) := by kernel_rfl
theorem z61 : (Tryf.prog.info? 61).map (fun i => (i.zero, i.size, i.bytes)) = some (some (.agg #[.int .i64 0, .int .i64 0]), 2, 16) := by kernel_rfl
theorem z64 : (Tryf.prog.info? 64).map (fun i => (i.zero, i.size, i.bytes)) = some (some (.agg #[.string ByteArray.empty, .int .i64 0, .int .i64 0, .slice none 0 0]), 4, 56) := by kernel_rfl
end Go.Proofs.Qxb6616309aFmt
