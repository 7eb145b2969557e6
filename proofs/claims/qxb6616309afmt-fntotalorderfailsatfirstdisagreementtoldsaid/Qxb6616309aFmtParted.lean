/-
  THE CLOSED FACTS OF fmt.Sprintf AT ITS ONE FORMAT, WHAT THE TEXT IS WHERE IT IS TOLD, AND THE WALK of 'parted'.
-/
import Derived.Test.Qxb6616309aFmtShared
import Derived.Stop.CallBack
import Derived.Stop.IfaceNil
import Derived.Stop.JoinedAt
import Derived.Stop.Texts
import Derived.Stop.JoinedTold
import Derived.Stop.FmtTextKit
import Derived.WalkSpells
import Derived.Deep.RegionHeld3
namespace Go.Proofs.Qxb6616309aFmt
open Go.RowKit Go.Extern.Stop Go.Stop Go.Extern

@[go_sem] theorem Tryf.call25 (args : Array Value) (w : World) : (callFunc 25 args).run Tryf.prog w = ((FmtStop.sprintf #[9, 108] #[9] args).run Tryf.prog w).andThen fun v w' => .ok (.value v) w' :=
  run_callFunc_extern Tryf.func25 (by kernel_rfl) (by kernel_rfl) (by kernel_rfl) (by kernel_rfl) args w
@[go_sem] theorem Tryf.guard (name : String) (w : World) : (FmtStop.guard name).run Tryf.prog w = .ok () w := by kernel_rfl
@[go_sem] theorem Tryf.fmt0 : FmtStop.printed? ⟨#[37, 115, 32, 100, 101, 108, 105, 118, 101, 114, 115, 32, 37, 115, 32, 98, 101, 102, 111, 114, 101, 32, 37, 115, 44, 32, 37, 115, 32, 37, 115, 32, 98, 101, 102, 111, 114, 101, 32, 37, 115]⟩ 6 =
    some [(0, 115, false), (1, 115, false), (2, 115, false), (3, 115, false), (4, 115, false), (5, 115, false)] := by kernel_rfl
@[go_sem] theorem Tryf.fmt0r (w : World) : (FmtDoors.printed ⟨#[37, 115, 32, 100, 101, 108, 105, 118, 101, 114, 115, 32, 37, 115, 32, 98, 101, 102, 111, 114, 101, 32, 37, 115, 44, 32, 37, 115, 32, 37, 115, 32, 98, 101, 102, 111, 114, 101, 32, 37, 115]⟩ 6).run Tryf.prog w =
    .ok [(0, 115, false), (1, 115, false), (2, 115, false), (3, 115, false), (4, 115, false), (5, 115, false)] w := by kernel_rfl
theorem Tryf.name9 : Tryf.prog.typeName? 3 9 = some "string" := by kernel_rfl
def Tryf.shape9 : List UInt8 := [12, 6, 0, 0, 0, 0, 0, 0, 0, 115, 116, 114, 105, 110, 103]
@[go_sem] theorem Tryf.op9_115 (name : String) (x : ByteArray) (w : World) : (FmtStop.operand name false 115 false (.iface 9 (.string x))).run Tryf.prog w = .ok (Tryf.shape9, FmtStop.pack x.data.toList) w := by kernel_rfl

def reading (a b c d e f : List UInt8) : List (List UInt8) :=
  [[37, 115, 32, 100, 101, 108, 105, 118, 101, 114, 115, 32, 37, 115, 32, 98, 101, 102, 111, 114, 101, 32, 37, 115, 44, 32, 37, 115, 32, 37, 115, 32, 98, 101, 102, 111, 114, 101, 32, 37, 115],
    Tryf.shape9, FmtStop.pack a, Tryf.shape9, FmtStop.pack b, Tryf.shape9, FmtStop.pack c, Tryf.shape9, FmtStop.pack d, Tryf.shape9, FmtStop.pack e, Tryf.shape9, FmtStop.pack f]

theorem t_parse : (FmtText.parse [37, 115, 32, 100, 101, 108, 105, 118, 101, 114, 115, 32, 37, 115, 32, 98, 101, 102, 111, 114, 101, 32, 37, 115, 44, 32, 37, 115, 32, 37, 115, 32, 98, 101, 102, 111, 114, 101, 32, 37, 115]).map FmtText.glue =
    some [.verb {} 115, .lit [32, 100, 101, 108, 105, 118, 101, 114, 115, 32], .verb {} 115, .lit [32, 98, 101, 102, 111, 114, 101, 32], .verb {} 115, .lit [44, 32], .verb {} 115, .lit [32], .verb {} 115, .lit [32, 98, 101, 102, 111, 114, 101, 32], .verb {} 115] := by rfl

theorem t_text (a b c d e f : List UInt8) (ha : a.length < 2 ^ 64) (hb : b.length < 2 ^ 64) (hc : c.length < 2 ^ 64) (hd : d.length < 2 ^ 64) (he : e.length < 2 ^ 64) (hf : f.length < 2 ^ 64) :
    FmtText.text "fmt.Sprintf" (reading a b c d e f) = some (a ++ [32, 100, 101, 108, 105, 118, 101, 114, 115, 32] ++ b ++ [32, 98, 101, 102, 111, 114, 101, 32] ++ c ++ [44, 32] ++ d ++ [32] ++ e ++ [32, 98, 101, 102, 111, 114, 101, 32] ++ f) := by
  have ho := fun (s : List UInt8) (h : s.length < 2 ^ 64) => FmtText.operand_str_at (sh := Tryf.shape9) rfl rfl s h
  rw [reading, FmtText.text_sprintf_glued t_parse (FmtText.operands_cons (ho a ha) (FmtText.operands_cons (ho b hb) (FmtText.operands_cons (ho c hc) (FmtText.operands_cons (ho d hd) (FmtText.operands_cons (ho e he) (FmtText.operands_cons (ho f hf) FmtText.operands_nil))))))]
  simp [FmtText.render, FmtText.printArg_s_str]

/-- fmt is told, and speaks: whatever six short texts it is given, the text is not empty -/
def Talks (w : World) : Prop := ∃ F : Interp, F.answers w.tape ∧ ∀ a b c d e f : ByteArray, a.size ≤ 1048576 → b.size ≤ 1048576 → c.size ≤ 1048576 → d.size ≤ 1048576 → e.size ≤ 1048576 → f.size ≤ 1048576 →
  (FmtStop.textOf (F "fmt.Sprintf" (reading a.data.toList b.data.toList c.data.toList d.data.toList e.data.toList f.data.toList) 0)).data.toList ≠ []
theorem Talks.of_tape {w w' : World} (h : Talks w) (e : w'.tape = w.tape) : Talks w' := by
  obtain ⟨F, h1, h2⟩ := h
  exact ⟨F, by rw [e]; exact h1, h2⟩
theorem talks_told (F : Interp) {w : World} (h : F.told.answers w.tape) : Talks w := by
  refine ⟨F.told, h, fun a b c d e f ha hb hc hd he hf => ?_⟩
  have ht := told_string F (t_text a.data.toList b.data.toList c.data.toList d.data.toList e.data.toList f.data.toList (by simp; omega) (by simp; omega) (by simp; omega) (by simp; omega) (by simp; omega) (by simp; omega)) (by simp; omega)
  rw [← Go.Kit.textOf_list] at ht
  generalize FmtStop.textOf (F.told "fmt.Sprintf" (reading a.data.toList b.data.toList c.data.toList d.data.toList e.data.toList f.data.toList) 0) = t at ht
  rw [ht]
  simp

/-- the nodes' names -/
structure Names (w : World) (nb n : Nat) (N : Nat → ByteArray) : Prop where
  row : w.rowIs nb 9 n (fun i => .string (N i))
  small : ∀ i, (N i).size ≤ 1048576
  few : n ≤ 65536

set_option maxHeartbeats 4000000 in
theorem parted_any (tb bb nb n c p q : Nat) (N : Nat → ByteArray) (x y : ByteArray) (w : World) (hT : Talks w) (ht : w.cell? ⟨tb, 0, none⟩ = some (.pointer (some ⟨bb, 0, none⟩))) (hb : w.cell? ⟨bb, 0, none⟩ = some (.slice (some ⟨nb, 0, none⟩) n c))
    (hN : Names w nb n N) (hp : p < n) (hq : q < n) (hx : x.size ≤ 1048576) (hy : y.size ≤ 1048576) :
    Calls Tryf.prog 23 #[.pointer (some ⟨tb, 0, none⟩), .int .i64 p, .int .i64 q, .string x, .string y] w fun e w' => ∃ t : ByteArray, e = .returned (.string t) ∧ t.data.toList ≠ [] ∧ Below w.heap.size w w' := by
  obtain ⟨F, hF, hFT⟩ := hT
  have hF' := answers_open hF
  have np := hN.row.cell hp
  have nq := hN.row.cell hq
  have hf := hN.few
  have HS : Hid _ := hN.small
  have HFT : Hid _ := hFT
  clear hN hFT hF
  have lt := World.block_lt_of_cell? _ _ ht
  have lb := World.block_lt_of_cell? _ _ hb
  have ln := World.block_lt_of_cell? _ _ np
  have z1 : (0 : Int) ≤ (p : Int) := by omega
  have z2 : (p : Int) < (n : Int) := by omega
  have z3 : (0 : Int) ≤ (q : Int) := by omega
  have z4 : (q : Int) < (n : Int) := by omega
  by_cases hpq : p < q
  · go_enter Tryf.func23, Tryf.ntmps23
    go_wp2
    go_region_held3 (fun w' => w'.cell? ⟨tb, 0, none⟩ = some (.pointer (some ⟨bb, 0, none⟩)) ∧ w'.cell? ⟨bb, 0, none⟩ = some (.slice (some ⟨nb, 0, none⟩) n c) ∧ w'.cell? ⟨nb, p, none⟩ = some (.string (N p)) ∧ w'.cell? ⟨nb, q, none⟩ = some (.string (N q))) (go_keep) (fail)
    go_wp2
    go_ret
    refine ⟨_, rfl, HFT.out (N p) y x (N q) x y (HS.out p) hy hx (HS.out q) hx hy, ?_⟩
    exact ((Below.refl _ w).alloc (Nat.le_refl _) _).drew.drew
  · go_enter Tryf.func23, Tryf.ntmps23
    go_wp2
    go_region_held3 (fun w' => w'.cell? ⟨tb, 0, none⟩ = some (.pointer (some ⟨bb, 0, none⟩)) ∧ w'.cell? ⟨bb, 0, none⟩ = some (.slice (some ⟨nb, 0, none⟩) n c) ∧ w'.cell? ⟨nb, p, none⟩ = some (.string (N p)) ∧ w'.cell? ⟨nb, q, none⟩ = some (.string (N q))) (go_keep) (fail)
    go_wp2
    go_ret
    refine ⟨_, rfl, HFT.out (N q) x y (N p) y x (HS.out q) hx hy (HS.out p) hy hx, ?_⟩
    exact ((Below.refl _ w).alloc (Nat.le_refl _) _).drew.drew
end Go.Proofs.Qxb6616309aFmt
