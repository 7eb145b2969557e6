/-
  THE WALKS of 'b1CloneStrings' and of the bound on the lengths.
-/
import Derived.Test.Qxb6616309aFmtShared
import Derived.WalkSpells
namespace Go.Proofs.Qxb6616309aFmt
open Go.RowKit

/-- strings that are read -/
def Strs (w : World) (a : Option Addr) (n : Nat) (N : Nat → ByteArray) : Prop := ∀ i, i < n → ∃ b off, a = some ⟨b, off, none⟩ ∧ b < w.heap.size ∧ ∀ i, i < n → w.cell? ⟨b, off + i, none⟩ = some (.string (N i))

theorem Tryf.info9 : (Tryf.prog.info? 9).map (fun i => (i.zero, i.size, i.bytes)) = some (some (.string ByteArray.empty), 1, 16) := by kernel_rfl
theorem Tryf.size9 : (Tryf.prog.info? 9).map (·.size) = some 1 := by kernel_rfl
theorem make22 (n : Nat) (hn : n ≤ 1048576) (w : World) : (Instr.makeSlice 22 (.int .i64 (n : Int)) (.int .i64 (n : Int))).run Tryf.prog w = .ok (.slice (some ⟨w.heap.size, 0, none⟩) n n) (w.alloc (.cells (madeCells #[.string ByteArray.empty] n) 9)) :=
  run_make_row' 22 9 (.string ByteArray.empty) 16 Tryf.underlying22 Tryf.info9 rfl .i64 .i64 n (by omega) (by omega) w

theorem copy_cells (T E : TypeId) (z : Value) (hu : Tryf.prog.underlying T = some (.slice E)) (hs : (Tryf.prog.info? E).map (·.size) = some 1) (x : Addr) (n c : Nat) (vs : List Value) (wc : World) (hl : vs.length = n) (h1 : ∀ v ∈ vs, v.oneCell' = true)
    (hc : 0 < n → ∃ b off, x = ⟨b, off, none⟩ ∧ b < wc.heap.size ∧ ∀ j v, vs[j]? = some v → wc.cell? ⟨b, off + j, none⟩ = some v) (ty : TypeId) :
    (Builtin.copy_ #[T, T] ty #[.slice (some ⟨wc.heap.size, 0, none⟩) n n, .slice (some x) n c]).run Tryf.prog (wc.alloc (.cells (madeCells #[z] n) E)) = .ok (goInt n) (wc.alloc (.cells vs.toArray E)) := by
  rcases Nat.eq_zero_or_pos n with h0 | h0
  · subst h0
    obtain rfl : vs = [] := List.eq_nil_of_length_eq_zero hl
    rw [run_copy_none (P := Tryf.prog) _ T T ty E _ _ _ _ _ _ hu hs (by simp)]
    have : madeCells #[z] 0 = #[] := by simp [madeCells, Array.range_zero']
    rw [this]; rfl
  · obtain ⟨b, off, rfl, hlt, hcell⟩ := hc h0
    have hg : (wc.alloc (.cells (madeCells #[z] n) E)).heap[wc.heap.size]? = some (.cells (madeCells #[z] n) E (0, 0)) := Deep.blk_alloc_new _ _
    rw [run_copy_row (P := Tryf.prog) _ T T ty E wc.heap.size 0 n n ⟨b, off, none⟩ n c (madeCells #[z] n) E vs hu hs hg (by simp [hl]) ?hsrc (by simp [size_madeCells, hl]) h1]
    case hsrc =>
      intro j v hj
      rw [WideShapes.add_plain, World.cell?_alloc_past _ _ _ hlt]
      exact hcell j v hj
    have e1 : ((madeCells #[z] n).toList.take 0 ++ vs ++ (madeCells #[z] n).toList.drop (0 + vs.length)).toArray = vs.toArray := by
      have : (madeCells #[z] n).toList.drop (0 + vs.length) = [] := by
        apply List.drop_eq_nil_of_le; simp [size_madeCells, hl]
      rw [this]; simp
    rw [e1, World.setRow_alloc_new wc (madeCells #[z] n) vs.toArray E]
    simp [hl]

def strs (N : Nat → ByteArray) (n : Nat) : List Value := (List.range n).map fun i => .string (N i)
theorem copy22 (x : Addr) (n c : Nat) (N : Nat → ByteArray) (wc : World) (h : Strs wc (some x) n N) (ty : TypeId) :
    (Builtin.copy_ #[22, 22] ty #[.slice (some ⟨wc.heap.size, 0, none⟩) n n, .slice (some x) n c]).run Tryf.prog (wc.alloc (.cells (madeCells #[.string ByteArray.empty] n) 9)) = .ok (goInt n) (wc.alloc (.cells (strs N n).toArray 9)) := by
  refine copy_cells 22 9 _ Tryf.underlying22 Tryf.size9 x n c (strs N n) wc (by simp [strs]) (by intro v hv; obtain ⟨z, _, rfl⟩ := List.mem_map.1 hv; rfl) (fun h0 => ?_) ty
  obtain ⟨b, off, e, hlt, hcell⟩ := h 0 h0
  injection e with e
  refine ⟨b, off, e, hlt, fun j v hj => ?_⟩
  unfold strs at hj
  rw [List.getElem?_map] at hj
  obtain ⟨z, hz, rfl⟩ := Option.map_eq_some_iff.1 hj
  have hjn : j < n := by
    have := (List.getElem?_eq_some_iff.1 hz).1
    simpa using this
  rw [List.getElem?_range hjn] at hz
  cases hz
  exact hcell j hjn
theorem strs_row (N : Nat → ByteArray) (n : Nat) (w : World) : (w.alloc (.cells (strs N n).toArray 9)).rowIs w.heap.size 9 n (fun i => .string (N i)) := by
  have := World.rowIs_alloc w (strs N n).toArray 9 (fun i => .string (N i)) (fun i hi => by
    simp [strs] at hi
    simp [strs, hi])
  simpa [strs] using this

set_option maxHeartbeats 400000 in
theorem clone_any (a : Option Addr) (n c : Nat) (N : Nat → ByteArray) (w : World) (hn : n ≤ 1048576) (ha : a = none → n = 0) (h : Strs w a n N) :
    Calls Tryf.prog 5 #[.slice a n c] w fun e w' => (n = 0 ∧ e = .returned (.slice none 0 0) ∧ w' = w) ∨ (∃ nb, e = .returned (.slice (some ⟨nb, 0, none⟩) n n) ∧ w.heap.size ≤ nb ∧ w'.rowIs nb 9 n (fun i => .string (N i)) ∧ Below w.heap.size w w') := by
  have q := fun (wx : World) (a : Option Addr) (n c : Nat) => Lib.run_eql_slice_nil (P := Tryf.prog) wx 22 9 a n c 0 0 Tryf.underlying22
  cases a with
  | none =>
    have hn0 : Hid (n = 0) := ha rfl
    clear ha
    go_enter Tryf.func5, Tryf.ntmps5
    go_wp2
    go_ret
    exact Or.inl ⟨hn0.out, rfl, rfl⟩
  | some x =>
    have hcp := fun c ty => copy22 x n c N w h ty
    have hmk := make22 n hn
    have HCD : Hid _ := strs_row N n w
    go_enter Tryf.func5, Tryf.ntmps5
    go_wp2
    go_ret
    exact Or.inr ⟨w.heap.size, rfl, Nat.le_refl _, HCD.out, (Below.refl _ _).alloc (Nat.le_refl _) _⟩

def Answers (n : Nat) (N : Nat → ByteArray) (e : Ending) : Prop := ∃ b : Bool, e = .returned (.bool b) ∧ (b = true → ∀ j, j < n → (N j).size ≤ 1048576)
set_option maxHeartbeats 2000000 in
theorem bytes_any (a a' : Option Addr) (n c n' c' : Nat) (N : Nat → ByteArray) (w : World) (hn : n ≤ maxLen) (hn' : n' ≤ maxLen) (h : Strs w a n N) : Calls Tryf.prog 4 #[.slice a n c, .slice a' n' c'] w fun e w' => Answers n N e ∧ w' = w := by
  have HS : Hid (Strs w a n N) := h
  clear h
  unfold maxLen at hn hn'
  by_cases h1 : n ≤ 1048576
  · by_cases h2 : n' ≤ 1048576
    all_goals
      go_enter Tryf.func4, Tryf.ntmps4
      go_wp2
      go_loop [5, 6] (fun vz vi => ∃ i z : Nat, i ≤ n ∧ z ≤ 1048576 ∧ vi = .int .i64 i ∧ vz = .int .i64 z ∧ ∀ j, j < i → (N j).size ≤ 1048576) (fun _ vi => n - (intOf vi).toNat)
      case atStart => exact ⟨0, n, by omega, h1, rfl, rfl, fun j hj => by omega⟩
      case round =>
        obtain ⟨i, z, hi, hz, rfl, rfl, hsz⟩ := hrel
        have HSZ : Hid (∀ j, j < i → (N j).size ≤ 1048576) := hsz
        clear hsz
        by_cases hin : i < n
        · obtain ⟨b, off, rfl, hlt, hc⟩ := HS.out i hin
          have ci := hc i hin
          clear hc HS
          by_cases h3 : (N i).size ≤ 1048576
          · by_cases h4 : z + (N i).size ≤ 1048576
            · go_wp2
              go_round
              case rel => exact ⟨i + 1, z + (N i).size, by omega, h4, by go_num, by go_num, upto_succ HSZ.out h3⟩
              case measure => simp [intOf]; omega
            · go_wp2
              go_ret
              exact ⟨⟨false, rfl, fun h => (by cases h)⟩, rfl⟩
          · go_wp2
            go_ret
            exact ⟨⟨false, rfl, fun h => (by cases h)⟩, rfl⟩
        · go_wp2
          all_goals
            go_ret
            first
              | exact ⟨⟨false, rfl, fun h => (by cases h)⟩, rfl⟩
              | exact ⟨⟨true, rfl, fun _ j hj => HSZ.out j (by omega)⟩, rfl⟩
  · go_enter Tryf.func4, Tryf.ntmps4
    go_wp2
    go_ret
    exact ⟨⟨false, rfl, fun h => (by cases h)⟩, rfl⟩
end Go.Proofs.Qxb6616309aFmt
