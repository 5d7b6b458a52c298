/-
  'Rows.LawS4635CFromSharesSaid', proved.
-/
import Derived.Test.YbulkcqyuCFromLaw
import Derived.Test.YbulkcqyuCOpen
namespace Go.Proofs.Ybulkcqyu.lawS4635CFromShares
open Go.ChangeShapes Go.WideShapes Go.ChangeAt Go.RowKit Go.Deep
set_option linter.unusedVariables false
set_option linter.unusedSimpArgs false

theorem own : ownKnob Yba.prog.godebug = none := by kernel_rfl
theorem laidOut : laidOutB Yba.prog = true := by kernel_rfl

set_option maxRecDepth 100000 in
set_option maxHeartbeats 400000 in
/-- more than 1024 steps -/
theorem long (sa : Option Addr) (len cap : Nat) (cn pl : Int) (w : World) (h : 1024 < len) (hlen : len ≤ maxLen) :
    Calls Yba.prog 5 #[.slice sa len cap, .int .u8 cn, .int .i32 pl] w fun e w' => e = .returned (.bool true) ∧ Below w.heap.size w w' := by
  unfold maxLen at hlen
  have hd : decide ((1024 : Int) < (len : Int)) = true := by simp; omega
  go_enter Yba.func5, Yba.ntmps5
  go_wp2_with fail
  go_ret
  exact ⟨rfl, Below.refl _ _⟩

set_option maxRecDepth 100000 in
theorem lifted (os : Os) (started : os.Started) (H : Type) (enc : TypeId × Value → H) :
    ReturnsInHanded {} Yba.checked os 5 .any (Rows.lawS4635CFromSharesSpec.pre6 enc Yba.prog Yba.f5 Rows.lawS4635CFromSharesRow.domain false) (Rows.lawS4635CFromSharesSpec.post enc Yba.prog Yba.f5 false true false false) := by
  refine returnsInHanded_of_change (C := Yba.checked) own started (by kernel_rfl) Yba.func5
    (ChangeSpec.witness6 (enc := enc) (C := Yba.checked) false ⟨#[], #[.slice none 0 0, .int .u8 0, .int .i32 0], []⟩ 8 (by kernel_rfl) (by kernel_rfl) (by kernel_rfl) (by kernel_rfl)) ?_
  intro W base args ds gs before hval0 hW hcnd _
  have hval : ∀ (j : Nat) t v, Yba.f5.params[j]? = some t → args[j]? = some v → Value.okWide Yba.prog W .any base t v := hval0
  have hW' := hW
  obtain ⟨p, q, hA0, hV, rfl, hfz, hnd⟩ := hW
  have hA : DataW.TrodAll enc Yba.prog W 0 (fun _ => true) true Yba.f5.params.toList args.toList ds p := hA0
  rw [Yba.params5] at hA hval
  obtain ⟨v0, vs0, d0, ds0, p0, q0, hargs, rfl, rfl, h0, r0⟩ := trodAll_cons hA
  obtain ⟨v1, vs1, d1, ds1, p1, q1, rfl, rfl, rfl, h1, r1⟩ := trodAll_cons r0
  obtain ⟨v2, vs2, d2, ds2, p2, q2, rfl, rfl, rfl, h2, r2⟩ := trodAll_cons r1
  obtain ⟨rfl, rfl, rfl⟩ := trodAll_nil r2
  obtain rfl : args = #[v0, v1, v2] := by cases args; simp_all
  obtain ⟨rfl, rfl⟩ := trodVars_none hV
  obtain ⟨cn, rfl, rfl, rfl, w1⟩ := open_int Yba.underlying5 (hval 1 5 v1 rfl rfl) h1
  obtain ⟨pl, rfl, rfl, rfl, w2⟩ := open_int Yba.underlying21 (hval 2 21 v2 rfl rfl) h2
  obtain ⟨a0, len0, cap0, rfl⟩ := okWide_slice Yba.underlying45 (hval 0 45 v0 rfl rfl)
  have k0 := h0
  have lt0 : ∀ x ∈ p0, x.block < W.heap.size := by obtain ⟨m, hm⟩ := k0; exact DataW.trod_lt m _ _ _ hm
  have bm := bounds_u8 w1
  have bp := bounds_i32 w2
  have walk : Calls Yba.prog 5 #[.slice a0 len0 cap0, .int .u8 cn, .int .i32 pl] W fun e w' => e = .returned (.bool true) ∧ Below W.heap.size W w' := by
    obtain ⟨s, rfl⟩ : ∃ s : Nat, cn = (s : Int) := ⟨cn.toNat, by omega⟩
    obtain ⟨fuel, hf⟩ := h0
    have hf' : DataW.trod enc Yba.prog W 0 (fun _ => true) true fuel 45 [.slice a0 len0 cap0] = some (d0, p0) := hf
    rcases open_steps hf' with ⟨rfl, rfl, rfl⟩ | ⟨ad, rfl, hlc, hcm, hz | ⟨sb, so, Ch, Pl, Fx, rfl, hst⟩⟩
    · exact share_any none 0 0 0 0 s (by omega) pl (by omega) (fun _ => 0) (fun _ => 0) (fun _ => false) W (fun i hi => absurd hi (by omega)) (by omega)
    · subst hz
      exact share_any (some ad) 0 0 0 cap0 s (by omega) pl (by omega) (fun _ => 0) (fun _ => 0) (fun _ => false) W (fun i hi => absurd hi (by omega)) (by omega)
    · rcases Nat.lt_or_ge 1024 len0 with hl | hl
      · exact long _ len0 cap0 _ _ W hl (by omega)
      · exact share_any (some ⟨sb, so, none⟩) sb so len0 cap0 s (by omega) pl (by omega) Ch Pl Fx W (fun i hi => ⟨rfl, hst i hi⟩) hl
  clear hA0 hval0
  refine walk.mono fun e W' ⟨he, bel⟩ => ?_
  subst he
  exact ⟨_, rfl, _, _, _, [], _, [], hW', trodAll_mk1 (shut_bool Yba.underlying4 _), (trodAll_cons_mk (Below.trod laidOut (by kernel_rfl) (of_decide_eq_true (by kernel_rfl)) k0 bel lt0) (trodAll_cons_mk (shut_int Yba.underlying5 w1) (trodAll_cons_mk (shut_int Yba.underlying21 w2) trodAll_mk0))), rfl, bel.frame _, fun h => by cases h⟩

theorem over : Rows.lawS4635CFromSharesRow.holds Yba.pinned (OpenSpec.ofChange Rows.lawS4635CFromSharesSpec) :=
  OpenClaim.holds_of_wide 5 Yba.f5 rfl rfl rfl rfl rfl rfl rfl ⟨rfl, rfl, rfl, rfl, rfl⟩ rfl rfl rfl rfl rfl (by kernel_rfl) Yba.func5 (by kernel_rfl)
    (of_decide_eq_true (by kernel_rfl)) (by unfold Func.isWrapper; first | (rw [if_pos (by decide +kernel)]; kernel_rfl) | (rw [if_neg (by decide +kernel)]; exact ⟨rfl, rfl⟩))
    (fun os started H enc _ => lifted os started H enc)

theorem proved : Rows.LawS4635CFromSharesSaid := over
#print axioms proved
end Go.Proofs.Ybulkcqyu.lawS4635CFromShares
