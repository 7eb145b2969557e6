/-
  THE PLAIN LAWS on the verdict's line.
-/
import Derived.Lib.Strings
namespace Go.Proofs.Qxb6616309a

def okTail : ByteArray := ⟨#[58, 32, 111, 107]⟩
def failTail : ByteArray := ⟨#[58, 32, 70, 65, 73, 76, 69, 68, 32]⟩
def colon : ByteArray := ⟨#[58, 32]⟩
/-- The verdict's line. -/
def vline (nm f : ByteArray) : ByteArray := if f.toList.isEmpty = true then nm ++ okTail else nm ++ failTail ++ f

theorem toList_data (a : ByteArray) : a.toList = a.data.toList := by
  rw [ByteArray.toList_eq]

theorem extract_left (a t : ByteArray) : (a ++ t).extract 0 a.size = a := by
  apply ByteArray.ext
  simp

theorem vline_yes {nm f : ByteArray} (h : f.toList.isEmpty = true) : vline nm f = (nm ++ colon) ++ ⟨#[111, 107]⟩ := by
  unfold vline
  rw [if_pos h]
  apply ByteArray.ext
  simp [okTail, colon]

theorem vline_no {nm f : ByteArray} (h : f.toList.isEmpty = false) : vline nm f = (nm ++ colon) ++ (⟨#[70, 65, 73, 76, 69, 68, 32]⟩ ++ f) := by
  unfold vline
  rw [if_neg (by simp [h])]
  apply ByteArray.ext
  simp only [failTail, colon, ByteArray.data_append, Array.append_assoc]
  apply Array.ext'
  simp

theorem vline_pre (nm f : ByteArray) : (nm ++ colon).size ≤ (vline nm f).size ∧ (vline nm f).extract 0 (nm ++ colon).size = nm ++ colon := by
  cases h : f.toList.isEmpty with
  | true => rw [vline_yes h]; exact ⟨by simp, extract_left _ _⟩
  | false => rw [vline_no h]; exact ⟨by simp, extract_left _ _⟩

theorem vline_size (nm f : ByteArray) : (vline nm f).size = if f.toList.isEmpty = true then nm.size + 4 else nm.size + 9 + f.size := by
  unfold vline
  split
  · simp [okTail]; rfl
  · simp [failTail]; rfl

theorem vline_inj {nm f g : ByteArray} (h : vline nm f = vline nm g) : f = g := by
  have hs := congrArg ByteArray.size h
  rw [vline_size, vline_size] at hs
  cases hf : f.toList.isEmpty <;> cases hg : g.toList.isEmpty
  · rw [vline_no hf, vline_no hg] at h
    have h2 := congrArg (fun x => x.data.toList) h
    simp at h2
    apply ByteArray.ext
    exact h2
  · rw [hf, hg] at hs; simp at hs; omega
  · rw [hf, hg] at hs; simp at hs; omega
  · rw [toList_data, List.isEmpty_iff] at hf hg
    apply ByteArray.ext
    apply Array.ext'
    rw [hf, hg]

theorem line_ne {nm f g : ByteArray} (h : ¬ f = g) : ((vline nm f).toList == (vline nm g).toList) = false ∧ (f.toList == g.toList) = false := by
  have inj : ∀ {a b : ByteArray}, a.toList = b.toList → a = b := by
    intro a b e
    rw [toList_data, toList_data] at e
    apply ByteArray.ext
    exact Array.ext' e
  refine ⟨?_, ?_⟩
  · rw [beq_eq_false_iff_ne]; intro e; exact h (vline_inj (inj e))
  · rw [beq_eq_false_iff_ne]; intro e; exact h (inj e)

end Go.Proofs.Qxb6616309a
