/-
  'Rows.LawS4638AStringSaid', proved: the given shell, filled.
-/
import Derived.Test.YbulkcrakRows
import Derived.WalkKit
import Derived.ProofKit
import Derived.OpenShut
import Derived.ShutString
import Derived.Test.YbulkcrakLeaf
namespace Go.Proofs.Ybulkcrak.lawS4638AString
open Go.ChangeShapes Go.WideShapes Go.ChangeAt Go.RowKit
open Go.ChangeMaps (open_string shut_string)
set_option linter.unusedVariables false      -- a walk need not use every 'w<i>' (that an integer argument fits its kind)

theorem own : ownKnob Yba.prog.godebug = none := by kernel_rfl

/-! ### STEP 1: THE WALK: the Go text returns true. 'Grown w w'': the world has at most new blocks (Derived/RowKit3.lean). Part the cases AHEAD of 'go_enter' where a test parts the walk; take each callee by a contract of your own. -/
theorem walk (a0 : ByteArray) (w0 : a0.size ≤ maxLen) (w : World) :
    Calls Yba.prog 3 #[.string a0] w fun e w' => e = .returned (.bool true) ∧ Grown w w' := by
  by_cases hl : 1048576 < a0.size
  · have hd : decide ((1048576 : Int) < (a0.size : Int)) = true := by simp; omega
    go_enter Yba.func3, Yba.ntmps3
    go_wp2_with fail
    go_ret
    exact ⟨rfl, Grown.refl _⟩
  · have hd : decide ((1048576 : Int) < (a0.size : Int)) = false := by simp; omega
    have ht := (show Hid _ from trimS_any a0 (by omega) w)
    go_enter Yba.func3, Yba.ntmps3
    go_wp2_with fail
    refine Calls.mono ht.out ?_
    rintro e w' ⟨r, rfl, htr, rfl⟩
    have hle := htr.le
    have HT : Hid (Trimmed a0 r) := htr
    have hsz : (a0.extract 0 r).size = r := by simp; omega
    have hd2 : decide ((a0.size : Int) < (r : Int)) = false := by simp; omega
    clear htr
    by_cases h0 : 0 < r
    · have hd3 : decide ((0 : Int) < (r : Int)) = true := by simp; omega
      have hbr : (((a0.extract 0 r)[r - 1]'(by omega)).toNat : Int) = bt a0 (r - 1) := by
        rw [← bt_eq a0 (r - 1) (by omega)]; simp only [ByteArray.getElem_extract, Nat.zero_add]
      have hcr := (show Hid _ from ablank_any (bt a0 (r - 1)) w')
      rw [HT.out.last h0] at hcr
      go_wp2_with fail
      refine Calls.mono hcr.out ?_
      rintro e w'' ⟨rfl, rfl⟩
      clear hbr
      go_wp2_with fail
      go_loopw [5] (fun x wr => ∃ k : Nat, r ≤ k ∧ k ≤ a0.size ∧ x = .int .i64 k ∧ wr = w'') (fun x _ => a0.size - (iOf x).toNat)
      case atStart => exact ⟨r, Nat.le_refl _, hle, rfl, rfl⟩
      case round =>
        obtain ⟨k, hk, hk2, rfl, rfl⟩ := hrel
        rcases (by omega : k < a0.size ∨ k = a0.size) with h1 | h1
        · have hd4 : decide ((k : Int) < (a0.size : Int)) = true := by simp; omega
          have hbk := bt_eq a0 k h1
          have hck := (show Hid _ from ablank_any (bt a0 k) wr)
          rw [HT.out.rest k hk h1] at hck
          go_wp2_with fail
          refine Calls.mono hck.out ?_
          rintro e w'' ⟨rfl, rfl⟩
          go_wp2_with fail
          exact ⟨⟨k + 1, by omega, by omega, by rw [show ((k + 1 : Nat) : Int) = (k : Int) + 1 by omega], trivial⟩, by simp only [iOf]; omega⟩
        · subst h1
          go_wp2_with fail
          go_ret
          exact ⟨rfl, Grown.refl _⟩
    · have e0 : r = 0 := by omega
      subst e0
      go_wp2_with fail
      go_loopw [5] (fun x wr => ∃ k : Nat, 0 ≤ k ∧ k ≤ a0.size ∧ x = .int .i64 k ∧ wr = w') (fun x _ => a0.size - (iOf x).toNat)
      case atStart => exact ⟨0, Nat.le_refl _, hle, rfl, rfl⟩
      case round =>
        obtain ⟨k, hk, hk2, rfl, rfl⟩ := hrel
        rcases (by omega : k < a0.size ∨ k = a0.size) with h1 | h1
        · have hd4 : decide ((k : Int) < (a0.size : Int)) = true := by simp; omega
          have hbk := bt_eq a0 k h1
          have hck := (show Hid _ from ablank_any (bt a0 k) wr)
          rw [HT.out.rest k hk h1] at hck
          go_wp2_with fail
          refine Calls.mono hck.out ?_
          rintro e w'' ⟨rfl, rfl⟩
          go_wp2_with fail
          exact ⟨⟨k + 1, by omega, by omega, by rw [show ((k + 1 : Nat) : Int) = (k : Int) + 1 by omega], trivial⟩, by simp only [iOf]; omega⟩
        · subst h1
          go_wp2_with fail
          go_ret
          exact ⟨rfl, Grown.refl _⟩

/-! ### THE ROW's STEP: WRITTEN OUT: LEAVE IT -/
set_option maxRecDepth 100000 in
theorem lifted (os : Os) (started : os.Started) (H : Type) (enc : TypeId × Value → H) :
    ReturnsInHanded {} Yba.checked os 3 .any (Rows.lawS4638AStringSpec.pre6 enc Yba.prog Yba.f3 Rows.lawS4638AStringRow.domain false) (Rows.lawS4638AStringSpec.post enc Yba.prog Yba.f3 false true false false) := by
  refine returnsInHanded_of_change (C := Yba.checked) own started (by kernel_rfl) Yba.func3
    (ChangeSpec.witness6 (enc := enc) (C := Yba.checked) false ⟨#[], #[.string ByteArray.empty], []⟩ 8 (by kernel_rfl) (by kernel_rfl) (by kernel_rfl) (by kernel_rfl)) ?_
  intro W base args ds gs before hval0 hW hcnd _
  have hval : ∀ (j : Nat) t v, Yba.f3.params[j]? = some t → args[j]? = some v → Value.okWide Yba.prog W .any base t v := hval0
  have hW' := hW
  obtain ⟨p, q, hA0, hV, rfl, hfz, hnd⟩ := hW
  have hA : DataW.TrodAll enc Yba.prog W 0 (fun _ => true) true Yba.f3.params.toList args.toList ds p := hA0
  rw [Yba.params3] at hA hval
  obtain ⟨v0, vs0, d0, ds0, p0, q0, hargs, rfl, rfl, h0, r0⟩ := trodAll_cons hA
  obtain ⟨rfl, rfl, rfl⟩ := trodAll_nil r0
  obtain rfl : args = #[v0] := by cases args; simp_all
  obtain ⟨rfl, rfl⟩ := trodVars_none hV
  obtain ⟨a0, rfl, rfl, rfl, w0⟩ := open_string Yba.underlying9 (hval 0 9 v0 rfl rfl) h0
  clear hA0 hval0
  simp only [List.append_nil] at hW'
  refine (walk a0 w0 W).mono fun e W' ⟨he, hg⟩ => ?_
  subst he
  exact ⟨_, rfl, post_of_same (pa := []) (pv := []) hW' (fun _ _ _ => (trodAll_cons_mk (shut_bool Yba.underlying4 _) trodAll_mk0)) (fun sp _ => (trodAll_cons_mk (shut_string Yba.underlying9 w0) trodAll_mk0)) (fun _ _ => rfl) rfl
    (hg.frame _) hg.2.1 (ok_one (by kernel_rfl) rfl (okWide_bool_mk Yba.underlying4 _))⟩

theorem over : Rows.lawS4638AStringRow.holds Yba.pinned (OpenSpec.ofChange Rows.lawS4638AStringSpec) :=
  OpenClaim.holds_of_wide 3 Yba.f3 rfl rfl rfl rfl rfl rfl rfl ⟨rfl, rfl, rfl, rfl, rfl⟩ rfl rfl rfl rfl rfl (by kernel_rfl) Yba.func3 (by kernel_rfl)
    (of_decide_eq_true (by kernel_rfl)) (by unfold Func.isWrapper; first | (rw [if_pos (by decide +kernel)]; kernel_rfl) | (rw [if_neg (by decide +kernel)]; exact ⟨rfl, rfl⟩))
    (fun os started H enc _ => lifted os started H enc)

/-- ████ THE STATEMENT ████ -/
theorem proved : Rows.LawS4638AStringSaid :=
  over
#print axioms proved
end Go.Proofs.Ybulkcrak.lawS4638AString
