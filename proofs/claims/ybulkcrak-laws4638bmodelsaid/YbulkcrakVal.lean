/-
  What it is for a content to be an entry with a value. Plain.
-/
import Derived.Test.YbulkcrakExt
namespace Go.Proofs.Ybulkcrak
set_option linter.unusedVariables false
set_option linter.unusedSimpArgs false

/-- the content (F, n) is an entry whose value is the bytes from p up to q, at least one -/
structure HasVal (F : Nat → Int) (n i e p q : Nat) : Prop where
  left : TrimL F n i
  ilt : i < n
  m1 : F i ≠ 59
  m2 : F i ≠ 35
  m3 : F i ≠ 91
  ie : i < e
  en : e < n
  eq : F e = 61
  no : ∀ k, i ≤ k → k < e → F k ≠ 61
  ep : e < p
  gap : ∀ k, e < k → k < p → bl (F k) = true
  pq : p < q
  pb : bl (F p) = false
  qn : q ≤ n
  qb : bl (F (q - 1)) = false
  rest : ∀ k, q ≤ k → k < n → bl (F k) = true
theorem HasVal.unique {F : Nat → Int} {n i e p q i' e' p' q' : Nat} (h : HasVal F n i e p q) (h' : HasVal F n i' e' p' q') : i = i' ∧ e = e' ∧ p = p' ∧ q = q' := by
  obtain rfl := h.left.unique h'.left
  have ee : e = e' := by
    rcases Nat.lt_trichotomy e e' with hl | hl | hl
    · exact absurd h.eq (h'.no e (by have := h.ie; omega) hl)
    · exact hl
    · exact absurd h'.eq (h.no e' (by have := h'.ie; omega) hl)
  subst ee
  have pp : p = p' := by
    rcases Nat.lt_trichotomy p p' with hl | hl | hl
    · have := h.pb; rw [h'.gap p h.ep hl] at this; cases this
    · exact hl
    · have := h'.pb; rw [h.gap p' h'.ep hl] at this; cases this
  have qq : q = q' := by
    rcases Nat.lt_trichotomy q q' with hl | hl | hl
    · have := h'.qb; rw [h.rest (q' - 1) (by omega) (by have := h'.qn; have := h'.pq; omega)] at this; cases this
    · exact hl
    · have := h.qb; rw [h'.rest (q - 1) (by omega) (by have := h.qn; have := h.pq; omega)] at this; cases this
  exact ⟨rfl, rfl, pp, qq⟩
end Go.Proofs.Ybulkcrak
