/-
  zzs4638bblank (15), content[string] (14), trimLeft[string] (23), indexByte[string] (25), walked.
-/
import Derived.Test.YbulkcrakLeaf
namespace Go.Proofs.Ybulkcrak
set_option linter.unusedVariables false
set_option linter.unusedSimpArgs false
open Go.RowKit

theorem bblank_any (b : Int) (w : World) : Calls Yba.prog 15 #[.int .u8 b] w fun e w' => e = .returned (.bool (bl b)) ∧ w' = w := by
  unfold bl
  by_cases h : (b == 32) = true
  · go_enter Yba.func15, Yba.ntmps15
    go_wp2_with fail
    go_ret
    exact ⟨by rw [h]; rfl, rfl⟩
  · simp only [Bool.not_eq_true] at h
    go_enter Yba.func15, Yba.ntmps15
    go_wp2_with fail
    go_ret
    exact ⟨by rw [h]; rfl, rfl⟩

/-- where the content ends -/
def cut (a : ByteArray) : Nat :=
  if 0 < a.size ∧ bt a (a.size - 1) = 10 then (if 0 < a.size - 1 ∧ bt a (a.size - 1 - 1) = 13 then a.size - 1 - 1 else a.size - 1) else a.size
theorem cut_le (a : ByteArray) : cut a ≤ a.size := by unfold cut; split; split <;> omega; omega

theorem ext_all (a : ByteArray) : a.extract 0 a.size = a := by simp
theorem content_any (a : ByteArray) (ha : a.size ≤ 1048576) (w : World) : Calls Yba.prog 14 #[.string a] w fun e w' => e = .returned (.string (a.extract 0 (cut a))) ∧ w' = w := by
  unfold cut
  by_cases h0 : 0 < a.size
  · have hd0 : decide ((0 : Int) < (a.size : Int)) = true := by simp; omega
    have hb := bt_eq a (a.size - 1) (by omega)
    by_cases h1 : bt a (a.size - 1) = 10
    · rw [if_pos ⟨h0, h1⟩]
      have hd1 : (bt a (a.size - 1) == 10) = true := by simp [h1]
      clear h1
      by_cases h2 : 0 < a.size - 1
      · have hd2 : decide ((0 : Int) < (a.size : Int) - 1) = true := by simp; omega
        have hb2 := bt_eq a (a.size - 1 - 1) (by omega)
        by_cases h3 : bt a (a.size - 1 - 1) = 13
        · rw [if_pos ⟨h2, h3⟩]
          have hd3 : (bt a (a.size - 1 - 1) == 13) = true := by simp [h3]
          clear h3
          go_enter Yba.func14, Yba.ntmps14
          go_wp2_with fail
          go_ret
          exact ⟨rfl, rfl⟩
        · rw [if_neg (fun h => h3 h.2)]
          have hd3 : (bt a (a.size - 1 - 1) == 13) = false := by simp [h3]
          clear h3
          go_enter Yba.func14, Yba.ntmps14
          go_wp2_with fail
          go_ret
          exact ⟨rfl, rfl⟩
      · rw [if_neg (fun h => h2 h.1)]
        have hd2 : decide ((0 : Int) < (a.size : Int) - 1) = false := by simp; omega
        go_enter Yba.func14, Yba.ntmps14
        go_wp2_with fail
        go_ret
        exact ⟨rfl, rfl⟩
    · rw [if_neg (fun h => h1 h.2)]
      have hd1 : (bt a (a.size - 1) == 10) = false := by simp [h1]
      clear h1
      go_enter Yba.func14, Yba.ntmps14
      go_wp2_with fail
      go_ret
      exact ⟨by rw [ext_all]; rfl, rfl⟩
  · rw [if_neg (fun h => h0 h.1)]
    have hd0 : decide ((0 : Int) < (a.size : Int)) = false := decide_eq_false (by omega)
    go_enter Yba.func14, Yba.ntmps14
    go_wp2_with fail
    go_ret
    exact ⟨by rw [ext_all]; rfl, rfl⟩

/-- how much a trim on the left drops -/
structure TrimL (F : Nat → Int) (n i : Nat) : Prop where
  le : i ≤ n
  drop : ∀ k, k < i → bl (F k) = true
  stop : i < n → bl (F i) = false

theorem trimLS_any (a : ByteArray) (ha : a.size ≤ 1048576) (w : World) : Calls Yba.prog 23 #[.string a] w fun e w' => ∃ i, e = .returned (.string (a.extract i a.size)) ∧ TrimL (bt a) a.size i ∧ w' = w := by
  go_enter Yba.func23, Yba.ntmps23
  go_wp2_with fail
  go_loopw [3] (fun x wr => ∃ i : Nat, i ≤ a.size ∧ x = .int .i64 i ∧ Hid (∀ k, k < i → bl (bt a k) = true) ∧ wr = w) (fun x _ => a.size - (iOf x).toNat)
  case atStart => exact ⟨0, by omega, rfl, fun k h => absurd h (by omega), rfl⟩
  case round =>
    obtain ⟨i, hi, rfl, hr, rfl⟩ := hrel
    by_cases h0 : i < a.size
    · have hd : decide ((i : Int) < (a.size : Int)) = true := by simp; omega
      have hb := bt_eq a i h0
      have hc := (show Hid _ from isBlank_any (bt a i) wr)
      cases hbl : bl (bt a i) with
      | true =>
        rw [hbl] at hc
        have hR : Hid (∀ k, k < i + 1 → bl (bt a k) = true) := fun k h1 => by
          by_cases e : k = i
          · rw [e]; exact hbl
          · exact hr.out k (by omega)
        clear hr hbl
        go_wp2_with fail
        refine Calls.mono hc.out ?_
        rintro e w' ⟨rfl, rfl⟩
        go_wp2_with fail
        exact ⟨⟨i + 1, by omega, by rw [show ((i + 1 : Nat) : Int) = (i : Int) + 1 by omega], hR, trivial⟩, by simp only [iOf]; omega⟩
      | false =>
        rw [hbl] at hc
        have HB : Hid (bl (bt a i) = false) := hbl
        clear hbl
        go_wp2_with fail
        refine Calls.mono hc.out ?_
        rintro e w' ⟨rfl, rfl⟩
        go_wp2_with fail
        go_ret
        exact ⟨i, rfl, ⟨hi, hr.out, fun _ => HB.out⟩, rfl⟩
    · have hd : decide ((i : Int) < (a.size : Int)) = false := by simp; omega
      go_wp2_with fail
      go_ret
      exact ⟨i, rfl, ⟨hi, hr.out, fun h => absurd h h0⟩, rfl⟩

/-- where a byte first stands -/
structure FirstAt (F : Nat → Int) (n : Nat) (c : Int) (i : Nat) : Prop where
  lt : i < n
  hit : F i = c
  before : ∀ k, k < i → F k ≠ c

theorem indexS_any (a : ByteArray) (c : Int) (ha : a.size ≤ 1048576) (w : World) : Calls Yba.prog 25 #[.string a, .int .u8 c] w fun e w' => ((∃ i : Nat, e = .returned (.int .i64 i) ∧ FirstAt (bt a) a.size c i) ∨ (e = .returned (.int .i64 (-1)) ∧ ∀ k, k < a.size → bt a k ≠ c)) ∧ w' = w := by
  go_enter Yba.func25, Yba.ntmps25
  go_wp2_with fail
  go_loopw [5] (fun x wr => ∃ i : Nat, i ≤ a.size ∧ x = .int .i64 i ∧ Hid (∀ k, k < i → bt a k ≠ c) ∧ wr = w) (fun x _ => a.size - (iOf x).toNat)
  case atStart => exact ⟨0, by omega, rfl, fun k h => absurd h (by omega), rfl⟩
  case round =>
    obtain ⟨i, hi, rfl, hr, rfl⟩ := hrel
    by_cases h0 : i < a.size
    · have hd : decide ((i : Int) < (a.size : Int)) = true := by simp; omega
      have hb := bt_eq a i h0
      by_cases e : bt a i = c
      · have he : (bt a i == c) = true := by simp [e]
        have HE : Hid (bt a i = c) := e
        clear e
        go_wp2_with fail
        go_ret
        exact ⟨.inl ⟨i, rfl, h0, HE.out, hr.out⟩, rfl⟩
      · have he : (bt a i == c) = false := by simp [e]
        have hR : Hid (∀ k, k < i + 1 → bt a k ≠ c) := fun k h1 => by
          by_cases e' : k = i
          · rw [e']; exact e
          · exact hr.out k (by omega)
        clear e hr
        go_wp2_with fail
        exact ⟨⟨i + 1, by omega, by rw [show ((i + 1 : Nat) : Int) = (i : Int) + 1 by omega], hR, trivial⟩, by simp only [iOf]; omega⟩
    · have hd : decide ((i : Int) < (a.size : Int)) = false := by simp; omega
      go_wp2_with fail
      go_ret
      exact ⟨.inr ⟨rfl, fun k hk => hr.out k (by omega)⟩, rfl⟩
end Go.Proofs.Ybulkcrak
