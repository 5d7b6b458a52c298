/-
  LawS4638BModel (5), walked.
-/
import Derived.Test.YbulkcrakCheck
import Derived.Test.YbulkcrakBuild
namespace Go.Proofs.Ybulkcrak
set_option linter.unusedVariables false
set_option linter.unusedSimpArgs false
open Go.RowKit Go.Deep

theorem bmodel_any (sa : Option Addr) (sb so len cap : Nat) (Z : Nat → Int) (s : ByteArray) (hlen : len ≤ 1024) (hlc : len ≤ cap) (hs : s.size ≤ 1024) (w : World) (hst : Hid (∀ i, i < len → sa = some ⟨sb, so, none⟩ ∧ w.cell? ⟨sb, so + i, none⟩ = some (.int .u8 (Z i)) ∧ 0 ≤ Z i ∧ Z i ≤ 255)) :
    Calls Yba.prog 5 #[.slice sa len cap, .string s] w fun e w' => e = .returned (.bool true) ∧ Below w.heap.size w w' := by
  have hd : decide ((1024 : Int) < (len : Int)) = false := by simp; omega
  have hd2 : decide ((1024 : Int) < (s.size : Int)) = false := by simp; omega
  have hbu := (show Hid _ from build_any sa sb so len cap Z hlen hlc w hst)
  go_enter Yba.func5, Yba.ntmps5
  go_wp2_with fail
  refine Calls.mono hbu.out ?_
  rintro e W1 ⟨raw, rfl, hraw, hc1⟩
  have HC1 : Hid (Chg (fun x => w.heap.size ≤ x) w W1) := hc1
  clear hc1 hbu hst
  go_wp2_with fail
  refine Calls.mono (check_any raw (by omega) W1) ?_
  rintro e W2 ⟨rfl, hc2⟩
  have HC2 : Hid (Chg (fun x => w.heap.size ≤ x) w W2) := HC1.out.andThen hc2 (fun b hb hlt => by have := HC1.out.size; omega)
  clear hc2 HC1
  go_wp2_with fail
  refine Calls.mono (check_any s (by omega) W2) ?_
  rintro e W3 ⟨rfl, hc3⟩
  have HC3 : Hid (Chg (fun x => w.heap.size ≤ x) w W3) := HC2.out.andThen hc3 (fun b hb hlt => by have := HC2.out.size; omega)
  clear hc3 HC2
  go_wp2_with fail
  go_ret
  exact ⟨rfl, HC3.out.below (Nat.le_refl _) (fun b hb => by omega)⟩
end Go.Proofs.Ybulkcrak
