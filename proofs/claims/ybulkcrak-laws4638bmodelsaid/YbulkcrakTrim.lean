/-
  trimRight[[]byte] (9), walked.
-/
import Derived.Test.YbulkcrakLeaf
import Derived.Test.YbulkcrakHeap
namespace Go.Proofs.Ybulkcrak
set_option linter.unusedVariables false
set_option linter.unusedSimpArgs false
open Go.RowKit Go.Deep

/-- how much a trim of n bytes leaves -/
structure TrimF (F : Nat → Int) (n r : Nat) : Prop where
  le : r ≤ n
  last : 0 < r → bl (F (r - 1)) = false
  rest : ∀ k, r ≤ k → k < n → bl (F k) = true

theorem trimB_any (sa : Option Addr) (B o n cap : Nat) (F : Nat → Int) (hn : n ≤ 1048576) (hc : n ≤ cap) (w : World) (hcell : Hid (∀ i, i < n → sa = some ⟨B, o, none⟩ ∧ w.cell? ⟨B, o + i, none⟩ = some (.int .u8 (F i)))) :
    Calls Yba.prog 9 #[.slice sa n cap] w fun e w' => ∃ r, e = .returned (.slice sa r cap) ∧ TrimF F n r ∧ w' = w := by
  go_enter Yba.func9, Yba.ntmps9
  go_wp2_with fail
  go_loopw [3] (fun x wr => ∃ i : Nat, i ≤ n ∧ x = .int .i64 i ∧ Hid (∀ k, i ≤ k → k < n → bl (F k) = true) ∧ wr = w) (fun x _ => (iOf x).toNat)
  case atStart => exact ⟨n, Nat.le_refl _, rfl, fun k h1 h2 => absurd h2 (by omega), rfl⟩
  case round =>
    obtain ⟨i, hi, rfl, hr, rfl⟩ := hrel
    by_cases h0 : 0 < i
    · have hd : decide ((0 : Int) < (i : Int)) = true := by simp; omega
      obtain ⟨rfl, hb⟩ := hcell.out (i - 1) (by omega)
      have hc := (show Hid _ from isBlank_any (F (i - 1)) wr)
      cases hbl : bl (F (i - 1)) with
      | true =>
        rw [hbl] at hc
        have hR : Hid (∀ k, i - 1 ≤ k → k < n → bl (F k) = true) := fun k h1 h2 => by
          by_cases e : k = i - 1
          · rw [e]; exact hbl
          · exact hr.out k (by omega) h2
        clear hr hbl
        go_wp2_with fail
        refine Calls.mono hc.out ?_
        rintro e w' ⟨rfl, rfl⟩
        go_wp2_with fail
        exact ⟨⟨i - 1, by omega, by rw [show ((i - 1 : Nat) : Int) = (i : Int) - 1 by omega], hR, trivial⟩, by simp only [iOf]; omega⟩
      | false =>
        rw [hbl] at hc
        have HB : Hid (bl (F (i - 1)) = false) := hbl
        clear hbl
        go_wp2_with fail
        refine Calls.mono hc.out ?_
        rintro e w' ⟨rfl, rfl⟩
        go_wp2_with fail
        go_ret
        exact ⟨i, rfl, ⟨hi, fun _ => HB.out, hr.out⟩, rfl⟩
    · have e0 : i = 0 := by omega
      subst e0
      go_wp2_with fail
      go_ret
      exact ⟨0, rfl, ⟨by omega, fun h => absurd h (by omega), hr.out⟩, rfl⟩
end Go.Proofs.Ybulkcrak
