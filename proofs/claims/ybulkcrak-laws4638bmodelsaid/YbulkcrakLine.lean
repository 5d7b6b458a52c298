/-
  A line in memory: of its six cells the value alone is told.
-/
import Derived.Test.YbulkcrakStr
import Derived.Test.YbulkcrakHeap
import Derived.Deep.QuietTactic
import Derived.BigQuiet
namespace Go.Proofs.Ybulkcrak
set_option linter.unusedVariables false
set_option linter.unusedSimpArgs false
open Go.RowKit Go.Deep

theorem trimS_w (a : ByteArray) (ha : a.size ≤ 1048576) (w : World) : Calls Yba.prog 7 #[.string a] w fun e w' => ∃ s : ByteArray, e = .returned (.string s) ∧ s.size ≤ a.size ∧ w' = w := by
  refine (trimS_any a ha w).mono ?_
  rintro e w' ⟨r, he, ht, hw⟩
  exact ⟨_, he, by simp; omega, hw⟩
theorem trimLS_w (a : ByteArray) (ha : a.size ≤ 1048576) (w : World) : Calls Yba.prog 23 #[.string a] w fun e w' => ∃ s : ByteArray, e = .returned (.string s) ∧ s.size ≤ a.size ∧ w' = w := by
  refine (trimLS_any a ha w).mono ?_
  rintro e w' ⟨r, he, ht, hw⟩
  exact ⟨_, he, by simp, hw⟩

/-- a line in memory -/
def lrow (ki nm va re : ByteArray) (inh : Bool) (pa : ByteArray) : Nat → Value := fun o => if o = 0 then .string ki else if o = 1 then .string nm else if o = 2 then .string va else if o = 3 then .string re else if o = 4 then .bool inh else .string pa
/-- .. of which the value alone is told -/
def LineIs (w : World) (lb : Nat) (va : ByteArray) : Prop := ∃ ki nm re inh pa, w.rowIs lb 33 6 (lrow ki nm va re inh pa)

theorem LineIs.set {w : World} {lb : Nat} {va : ByteArray} (h : LineIs w lb va) (o : Nat) (s : ByteArray) (ho : o = 0 ∨ o = 1 ∨ o = 3 ∨ o = 5) : LineIs (w.setCell ⟨lb, o, none⟩ (.string s)) lb va := by
  obtain ⟨ki, nm, re, inh, pa, hr⟩ := h
  refine ⟨if o = 0 then s else ki, if o = 1 then s else nm, if o = 3 then s else re, inh, if o = 5 then s else pa, (hr.set o _).congr (fun x hx => ?_)⟩
  unfold lrow
  rcases (by omega : x = 0 ∨ x = 1 ∨ x = 2 ∨ x = 3 ∨ x = 4 ∨ x = 5) with rfl | rfl | rfl | rfl | rfl | rfl <;> rcases ho with rfl | rfl | rfl | rfl <;> rfl
theorem LineIs.setB {w : World} {lb : Nat} {va : ByteArray} (h : LineIs w lb va) (b : Bool) : LineIs (w.setCell ⟨lb, 4, none⟩ (.bool b)) lb va := by
  obtain ⟨ki, nm, re, inh, pa, hr⟩ := h
  refine ⟨ki, nm, re, b, pa, (hr.set 4 _).congr (fun x hx => ?_)⟩
  unfold lrow
  rcases (by omega : x = 0 ∨ x = 1 ∨ x = 2 ∨ x = 3 ∨ x = 4 ∨ x = 5) with rfl | rfl | rfl | rfl | rfl | rfl <;> rfl
theorem LineIs.setV {w : World} {lb : Nat} {va : ByteArray} (h : LineIs w lb va) (s : ByteArray) : LineIs (w.setCell ⟨lb, 2, none⟩ (.string s)) lb s := by
  obtain ⟨ki, nm, re, inh, pa, hr⟩ := h
  refine ⟨ki, nm, re, inh, pa, (hr.set 2 _).congr (fun x hx => ?_)⟩
  unfold lrow
  rcases (by omega : x = 0 ∨ x = 1 ∨ x = 2 ∨ x = 3 ∨ x = 4 ∨ x = 5) with rfl | rfl | rfl | rfl | rfl | rfl <;> rfl
end Go.Proofs.Ybulkcrak
