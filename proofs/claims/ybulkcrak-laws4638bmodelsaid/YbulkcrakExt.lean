/-
  Extracts of strings, and that what a trim or a search finds is one. Plain.
-/
import Derived.Test.YbulkcrakHeader
namespace Go.Proofs.Ybulkcrak
set_option linter.unusedVariables false
set_option linter.unusedSimpArgs false
open Go.RowKit Go.Deep

theorem bt_ext (a : ByteArray) (p q k : Nat) (hq : q ≤ a.size) (h : p + k < q) : bt (a.extract p q) k = bt a (p + k) := by
  rw [← bt_eq (a.extract p q) k (by simp; omega), ← bt_eq a (p + k) (by omega)]
  simp only [ByteArray.getElem_extract]
theorem ext_ext (a : ByteArray) (p q i j : Nat) (hq : q ≤ a.size) (hj : p + j ≤ q) : (a.extract p q).extract i j = a.extract (p + i) (p + j) := by
  apply ByteArray.ext
  simp only [ByteArray.data_extract, Array.extract_extract]
  congr 1
  omega
theorem Trimmed.unique {a : ByteArray} {r r' : Nat} (h : Trimmed a r) (h' : Trimmed a r') : r = r' := by
  rcases Nat.lt_trichotomy r r' with hl | hl | hl
  · have := h'.last (by omega); rw [h.rest (r' - 1) (by omega) (by have := h'.le; omega)] at this; cases this
  · exact hl
  · have := h.last (by omega); rw [h'.rest (r - 1) (by omega) (by have := h.le; omega)] at this; cases this
theorem TrimL.unique {F : Nat → Int} {n i i' : Nat} (h : TrimL F n i) (h' : TrimL F n i') : i = i' := by
  rcases Nat.lt_trichotomy i i' with hl | hl | hl
  · have := h.stop (by have := h'.le; omega); rw [h'.drop i hl] at this; cases this
  · exact hl
  · have := h'.stop (by have := h.le; omega); rw [h.drop i' hl] at this; cases this
theorem FirstAt.unique {F : Nat → Int} {n : Nat} {c : Int} {i i' : Nat} (h : FirstAt F n c i) (h' : FirstAt F n c i') : i = i' := by
  rcases Nat.lt_trichotomy i i' with hl | hl | hl
  · exact absurd h.hit (h'.before i hl)
  · exact hl
  · exact absurd h'.hit (h.before i' hl)
end Go.Proofs.Ybulkcrak
