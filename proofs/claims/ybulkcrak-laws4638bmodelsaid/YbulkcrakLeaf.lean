/-
  isBlank (16), zzs4638ablank (8), trimRight[string] (7), walked.
-/
import Derived.Test.YbulkcrakRows
import Derived.WalkKit
import Derived.ProofKit
import Derived.Deep.RegionHeld3
import Derived.BigQuiet
import Derived.Below
import Derived.Deep.OwnRows
import Derived.Deep.QuietTactic
namespace Go.Proofs.Ybulkcrak
set_option linter.unusedVariables false
set_option linter.unusedSimpArgs false
open Go.RowKit

/-- a blank -/
def bl (b : Int) : Bool := b == 32 || b == 9

theorem ablank_any (b : Int) (w : World) : Calls Yba.prog 8 #[.int .u8 b] w fun e w' => e = .returned (.bool (bl b)) ∧ w' = w := by
  unfold bl
  by_cases h : (b == 32) = true
  · go_enter Yba.func8, Yba.ntmps8
    go_wp2_with fail
    go_ret
    exact ⟨by rw [h]; rfl, rfl⟩
  · simp only [Bool.not_eq_true] at h
    go_enter Yba.func8, Yba.ntmps8
    go_wp2_with fail
    go_ret
    exact ⟨by rw [h]; rfl, rfl⟩
theorem isBlank_any (b : Int) (w : World) : Calls Yba.prog 16 #[.int .u8 b] w fun e w' => e = .returned (.bool (bl b)) ∧ w' = w := by
  unfold bl
  by_cases h : (b == 32) = true
  · go_enter Yba.func16, Yba.ntmps16
    go_wp2_with fail
    go_ret
    exact ⟨by rw [h]; rfl, rfl⟩
  · simp only [Bool.not_eq_true] at h
    go_enter Yba.func16, Yba.ntmps16
    go_wp2_with fail
    go_ret
    exact ⟨by rw [h]; rfl, rfl⟩

def iOf : Value → Int | .int _ q => q | _ => 0
/-- byte i of a string, as the walk reads it -/
def bt (a : ByteArray) (i : Nat) : Int := if h : i < a.size then (a[i].toNat : Int) else 0
theorem bt_eq (a : ByteArray) (i : Nat) (h : i < a.size) : (a[i].toNat : Int) = bt a i := by unfold bt; rw [dif_pos h]
theorem bt_u8 (a : ByteArray) (i : Nat) : 0 ≤ bt a i ∧ bt a i ≤ 255 := by
  unfold bt
  split
  · have := a[i].toNat_lt; omega
  · omega
/-- how much a trim leaves -/
structure Trimmed (a : ByteArray) (r : Nat) : Prop where
  le : r ≤ a.size
  last : 0 < r → bl (bt a (r - 1)) = false
  rest : ∀ k, r ≤ k → k < a.size → bl (bt a k) = true

theorem ext0 (a : ByteArray) : a.extract 0 0 = ByteArray.empty := by
  apply ByteArray.ext
  simp
theorem trimS_any (a : ByteArray) (ha : a.size ≤ 1048576) (w : World) : Calls Yba.prog 7 #[.string a] w fun e w' => ∃ r, e = .returned (.string (a.extract 0 r)) ∧ Trimmed a r ∧ w' = w := by
  go_enter Yba.func7, Yba.ntmps7
  go_wp2_with fail
  go_loopw [3] (fun x wr => ∃ i : Nat, i ≤ a.size ∧ x = .int .i64 i ∧ Hid (∀ k, i ≤ k → k < a.size → bl (bt a k) = true) ∧ wr = w) (fun x _ => (iOf x).toNat)
  case atStart => exact ⟨a.size, Nat.le_refl _, rfl, fun k h1 h2 => absurd h2 (by omega), rfl⟩
  case round =>
    obtain ⟨i, hi, rfl, hr, rfl⟩ := hrel
    by_cases h0 : 0 < i
    · have hd : decide ((0 : Int) < (i : Int)) = true := by simp; omega
      have hb := bt_eq a (i - 1) (by omega)
      have hc := (show Hid _ from isBlank_any (bt a (i - 1)) wr)
      cases hbl : bl (bt a (i - 1)) with
      | true =>
        rw [hbl] at hc
        have hR : Hid (∀ k, i - 1 ≤ k → k < a.size → bl (bt a k) = true) := fun k h1 h2 => by
          by_cases e : k = i - 1
          · rw [e]; exact hbl
          · exact hr.out k (by omega) h2
        clear hr hbl
        go_wp2_with fail
        refine Calls.mono hc.out ?_
        rintro e w' ⟨rfl, rfl⟩
        go_wp2_with fail
        exact ⟨⟨i - 1, by omega, by rw [show ((i - 1 : Nat) : Int) = (i : Int) - 1 by omega], hR, trivial⟩, by simp only [iOf]; omega⟩
      | false =>
        rw [hbl] at hc
        have HB : Hid (bl (bt a (i - 1)) = false) := hbl
        clear hbl
        go_wp2_with fail
        refine Calls.mono hc.out ?_
        rintro e w' ⟨rfl, rfl⟩
        go_wp2_with fail
        go_ret
        exact ⟨i, rfl, ⟨hi, fun _ => HB.out, hr.out⟩, rfl⟩
    · have e0 : i = 0 := by omega
      subst e0
      go_wp2_with fail
      go_ret
      exact ⟨0, by rw [ext0]; rfl, ⟨by omega, fun h => absurd h (by omega), hr.out⟩, rfl⟩
end Go.Proofs.Ybulkcrak
