/-
  'Rows.LawS4635BHeadsSaid', proved.
-/
import Derived.Test.YbulkcqyuBMain
import Derived.ProofKit
import Derived.OpenShut
import Derived.ShutString
import Derived.ChangeOld
import Derived.Deep.SlicePairs
namespace Go.Proofs.Ybulkcqyu.lawS4635BHeads
open Go.ChangeShapes Go.WideShapes Go.ChangeAt Go.RowKit Go.Deep
set_option linter.unusedVariables false
set_option linter.unusedSimpArgs false

theorem own : ownKnob Yba.prog.godebug = none := by kernel_rfl
theorem laidOut : laidOutB Yba.prog = true := by kernel_rfl

/-- What the walk is told of the steps. -/
def IsSteps (w : World) (sa : Option Addr) (len : Nat) (Me Pa : Nat → Int) : Prop :=
  ∀ i, i < len → (∃ sb so, sa = some ⟨sb, so, none⟩ ∧ w.cell? ⟨sb, so + i * 2, none⟩ = some (.int .u16 (Me i)) ∧ w.cell? ⟨sb, so + i * 2 + 1, none⟩ = some (.int .u64 (Pa i))) ∧
    (0 ≤ Me i ∧ Me i ≤ 65535) ∧ 0 ≤ Pa i ∧ Pa i ≤ 18446744073709551615

set_option maxRecDepth 100000 in
set_option maxHeartbeats 400000 in
theorem walk (mem : Int) (hmem : 0 ≤ mem ∧ mem ≤ 255) (sa : Option Addr) (len cap : Nat) (Me Pa : Nat → Int) (w : World) (hs : IsSteps w sa len Me Pa) (hlen : len ≤ maxLen) :
    Calls Yba.prog 3 #[.int .u8 mem, .slice sa len cap] w fun e w' => e = .returned (.bool true) ∧ Below w.heap.size w w' := by
  unfold maxLen at hlen
  by_cases h300 : 300 < len
  · have hd : decide ((300 : Int) < (len : Int)) = true := by simp; omega
    clear hs
    go_enter Yba.func3, Yba.ntmps3
    go_wp2_with fail
    go_ret
    exact ⟨rfl, Below.refl _ _⟩
  · by_cases h0 : len = 0
    · subst h0
      clear hs
      go_enter Yba.func3, Yba.ntmps3
      go_wp2_with fail
      go_ret
      exact ⟨rfl, Below.refl _ _⟩
    · obtain ⟨⟨sb, so, hsa, _, _⟩, _⟩ := hs 0 (by omega)
      refine heads_any mem hmem sa sb so len cap Me Pa w (fun i hi => ?_) (fun i hi => (hs i hi).2) (by omega) (by omega)
      obtain ⟨⟨sb', so', hsa', c1, c2⟩, _⟩ := hs i hi
      rw [hsa] at hsa'
      simp only [Option.some.injEq, Addr.mk.injEq, and_true] at hsa'
      obtain ⟨rfl, rfl⟩ := hsa'
      exact ⟨hsa, c1, c2⟩

set_option maxRecDepth 100000 in
theorem lifted (os : Os) (started : os.Started) (H : Type) (enc : TypeId × Value → H) :
    ReturnsInHanded {} Yba.checked os 3 .any (Rows.lawS4635BHeadsSpec.pre6 enc Yba.prog Yba.f3 Rows.lawS4635BHeadsRow.domain false) (Rows.lawS4635BHeadsSpec.post enc Yba.prog Yba.f3 false true false false) := by
  refine returnsInHanded_of_change (C := Yba.checked) own started (by kernel_rfl) Yba.func3
    (ChangeSpec.witness6 (enc := enc) (C := Yba.checked) false ⟨#[], #[.int .u8 0, .slice none 0 0], []⟩ 8 (by kernel_rfl) (by kernel_rfl) (by kernel_rfl) (by kernel_rfl)) ?_
  intro W base args ds gs before hval0 hW hcnd _
  have hval : ∀ (j : Nat) t v, Yba.f3.params[j]? = some t → args[j]? = some v → Value.okWide Yba.prog W .any base t v := hval0
  have hW' := hW
  obtain ⟨p, q, hA0, hV, rfl, hfz, hnd⟩ := hW
  have hA : DataW.TrodAll enc Yba.prog W 0 (fun _ => true) true Yba.f3.params.toList args.toList ds p := hA0
  rw [Yba.params3] at hA hval
  obtain ⟨v0, vs0, d0, ds0, p0, q0, hargs, rfl, rfl, h0, r0⟩ := trodAll_cons hA
  obtain ⟨v1, vs1, d1, ds1, p1, q1, rfl, rfl, rfl, h1, r1⟩ := trodAll_cons r0
  obtain ⟨rfl, rfl, rfl⟩ := trodAll_nil r1
  obtain rfl : args = #[v0, v1] := by cases args; simp_all
  obtain ⟨rfl, rfl⟩ := trodVars_none hV
  obtain ⟨mem, rfl, rfl, rfl, w0⟩ := open_int Yba.underlying5 (hval 0 5 v0 rfl rfl) h0
  obtain ⟨a0, len0, cap0, rfl⟩ := okWide_slice Yba.underlying22 (hval 1 22 v1 rfl rfl)
  have k1 := h1
  have lt1 : ∀ x ∈ p1, x.block < W.heap.size := by obtain ⟨m, hm⟩ := k1; exact DataW.trod_lt m _ _ _ hm
  obtain ⟨Me, Pa, hst, hml⟩ : ∃ Me Pa, IsSteps W a0 len0 Me Pa ∧ len0 ≤ maxLen := by
    obtain ⟨fuel, hf⟩ := h1
    rcases open_slice_pairs Yba.underlying22 Yba.underlying41 (by kernel_rfl) rfl rfl (by kernel_rfl) (by kernel_rfl) hf with ⟨hcs, _⟩ | ⟨x, l, c, m', n', V0, V1, D0, D1, P0, P1, hcs, _, hlc, hcm, hm', _, hcell⟩
    · simp [Value.cells] at hcs
      obtain ⟨rfl, rfl, rfl⟩ := hcs
      exact ⟨fun _ => 0, fun _ => 0, fun i hi => by omega, by unfold maxLen; omega⟩
    · simp [Value.cells] at hcs
      obtain ⟨rfl, rfl, rfl⟩ := hcs
      simp only [if_true] at hm'
      subst hm'
      have hi1 : ∀ i, i < len0 → ∃ a : Int, V0 i = .int .u16 a ∧ 0 ≤ a ∧ a ≤ 65535 := by
        intro i hi
        obtain ⟨a, e, _, wa⟩ := DataW.trod_int Yba.underlying39 (hcell i (by omega)).2.2.1
        simp at e
        have := bounds_u16 wa
        exact ⟨a, e, by omega, by omega⟩
      have hi2 : ∀ i, i < len0 → ∃ a : Int, V1 i = .int .u64 a ∧ 0 ≤ a ∧ a ≤ 18446744073709551615 := by
        intro i hi
        obtain ⟨a, e, _, wa⟩ := DataW.trod_int Yba.underlying24 (hcell i (by omega)).2.2.2
        simp at e
        have := bounds_u64 wa
        exact ⟨a, e, by omega, by omega⟩
      refine ⟨fun i => match V0 i with | .int _ n => n | _ => 0, fun i => match V1 i with | .int _ n => n | _ => 0, fun i hi => ?_, by omega⟩
      obtain ⟨a, ea, ba⟩ := hi1 i hi
      obtain ⟨b, eb, bb⟩ := hi2 i hi
      have c0 := (hcell 0 (by omega)).1
      obtain ⟨sb, so, spot⟩ := x
      have hspot : spot = none := by simpa [Addr.add] using World.cell?_spot c0
      subst hspot
      have hc := hcell i (by omega)
      simp only [ea, eb]
      refine ⟨⟨sb, so, rfl, ?_, ?_⟩, ba, bb⟩
      · rw [← ea, ← hc.1, add_plain]
      · rw [← eb, ← hc.2.1, add_plain, Nat.add_assoc]
  have bm := bounds_u8 w0
  clear hA0 hval0
  refine (walk mem (by omega) a0 len0 cap0 Me Pa W hst hml).mono fun e W' ⟨he, bel⟩ => ?_
  subst he
  exact ⟨_, rfl, _, _, _, [], _, [], hW', trodAll_mk1 (shut_bool Yba.underlying4 _), (trodAll_cons_mk (shut_int Yba.underlying5 w0) (trodAll_cons_mk (Below.trod laidOut (by kernel_rfl) (of_decide_eq_true (by kernel_rfl)) k1 bel lt1) trodAll_mk0)), rfl, bel.frame _, fun h => by cases h⟩

theorem over : Rows.lawS4635BHeadsRow.holds Yba.pinned (OpenSpec.ofChange Rows.lawS4635BHeadsSpec) :=
  OpenClaim.holds_of_wide 3 Yba.f3 rfl rfl rfl rfl rfl rfl rfl ⟨rfl, rfl, rfl, rfl, rfl⟩ rfl rfl rfl rfl rfl (by kernel_rfl) Yba.func3 (by kernel_rfl)
    (of_decide_eq_true (by kernel_rfl)) (by unfold Func.isWrapper; first | (rw [if_pos (by decide +kernel)]; kernel_rfl) | (rw [if_neg (by decide +kernel)]; exact ⟨rfl, rfl⟩))
    (fun os started H enc _ => lifted os started H enc)

theorem proved : Rows.LawS4635BHeadsSaid := over
#print axioms proved
end Go.Proofs.Ybulkcqyu.lawS4635BHeads
