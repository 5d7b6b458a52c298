/-
  'Rows.LawS4659CExactSaid', proved: the guide's shell for a row over integers and bools, and an array of three by value opened by hand.
-/
import Derived.Test.YbulkcrlsRows
import Derived.WalkKit
import Derived.ProofKit
import Derived.OpenShut
import Derived.ShutString
import Derived.Laws.IdiomArrays
import Derived.Test.YbulkcrlsWalk
namespace Go.Proofs.Ybulkcrls.lawS4659CExact
open Go.ChangeShapes Go.WideShapes Go.ChangeAt Go.RowKit
open Go.ChangeMaps (open_string shut_string)
set_option linter.unusedVariables false      -- a walk need not use every 'w<i>' (that an integer argument fits its kind)

theorem own : ownKnob Yba.prog.godebug = none := by kernel_rfl

theorem cells3 : Yba.prog.cellsOf 3 = 1 := by kernel_rfl
theorem cells29 : Yba.prog.cellsOf 29 = 3 := by kernel_rfl

/-- in a context of its own -/
theorem list3 {α : Type} (l : List α) (h : (⟨l⟩ : Array α).size = 3) : ∃ a b c, l = [a, b, c] := by
  match l, h with
  | [a, b, c], _ => exact ⟨a, b, c, rfl⟩

set_option maxRecDepth 100000 in
theorem lifted (os : Os) (started : os.Started) (H : Type) (enc : TypeId × Value → H) :
    ReturnsInHanded {} Yba.checked os 5 .any (Rows.lawS4659CExactSpec.pre6 enc Yba.prog Yba.f5 Rows.lawS4659CExactRow.domain false) (Rows.lawS4659CExactSpec.post enc Yba.prog Yba.f5 false true false false) := by
  refine returnsInHanded_of_change (C := Yba.checked) own started (by kernel_rfl) Yba.func5
    (ChangeSpec.witness6 (enc := enc) (C := Yba.checked) false ⟨#[], #[.bool false, .agg #[.int .i64 0, .int .i64 0, .int .i64 0], .int .i64 0, .int .u8 0, .int .i64 0], []⟩ 8 (by kernel_rfl) (by kernel_rfl) (by kernel_rfl) (by kernel_rfl)) ?_
  intro W base args ds gs before hval0 hW hcnd _
  have hval : ∀ (j : Nat) t v, Yba.f5.params[j]? = some t → args[j]? = some v → Value.okWide Yba.prog W .any base t v := hval0
  have hW' := hW
  obtain ⟨p, q, hA0, hV, rfl, hfz, hnd⟩ := hW
  have hA : DataW.TrodAll enc Yba.prog W 0 (fun _ => true) true Yba.f5.params.toList args.toList ds p := hA0
  rw [Yba.params5] at hA hval
  obtain ⟨v0, vs0, d0, ds0, p0, q0, hargs, rfl, rfl, h0, r0⟩ := trodAll_cons hA
  obtain ⟨v1, vs1, d1, ds1, p1, q1, rfl, rfl, rfl, h1, r1⟩ := trodAll_cons r0
  obtain ⟨v2, vs2, d2, ds2, p2, q2, rfl, rfl, rfl, h2, r2⟩ := trodAll_cons r1
  obtain ⟨v3, vs3, d3, ds3, p3, q3, rfl, rfl, rfl, h3, r3⟩ := trodAll_cons r2
  obtain ⟨v4, vs4, d4, ds4, p4, q4, rfl, rfl, rfl, h4, r4⟩ := trodAll_cons r3
  obtain ⟨rfl, rfl, rfl⟩ := trodAll_nil r4
  obtain rfl : args = #[v0, v1, v2, v3, v4] := by cases args; simp_all
  obtain ⟨rfl, rfl⟩ := trodVars_none hV
  obtain ⟨a0, rfl, rfl, rfl⟩ := open_bool Yba.underlying4 (hval 0 4 v0 rfl rfl) h0
  obtain ⟨cs, rfl, hsz, _⟩ : ∃ cs, v1 = .agg cs ∧ cs.size = Yba.prog.cellsOf 29 ∧ Row.okWide Yba.prog W .any base 29 cs := by
    have := hval 1 29 v1 rfl rfl
    simpa [Value.okWide, Yba.underlying29] using this
  rw [cells29] at hsz
  obtain ⟨l⟩ := cs
  obtain ⟨c0, c1, c2, rfl⟩ := list3 l hsz
  obtain ⟨fuel, hf⟩ := h1
  obtain ⟨y0, y1, y2, n1, hx, hy0, hy1, hy2⟩ := trod_array3 Yba.underlying29 cells3 hf
  obtain ⟨x0, e0, rfl, u0⟩ := DataW.trod_int Yba.underlying3 hy0
  obtain ⟨x1, e1, rfl, u1⟩ := DataW.trod_int Yba.underlying3 hy1
  obtain ⟨x2, e2, rfl, u2⟩ := DataW.trod_int Yba.underlying3 hy2
  simp at e0 e1 e2
  subst e0 e1 e2
  simp only [Prod.mk.injEq] at hx
  obtain ⟨rfl, rfl⟩ := hx
  obtain ⟨a2, rfl, rfl, rfl, w2⟩ := open_int Yba.underlying3 (hval 2 3 v2 rfl rfl) h2
  obtain ⟨a3, rfl, rfl, rfl, w3⟩ := open_int Yba.underlying5 (hval 3 5 v3 rfl rfl) h3
  obtain ⟨a4, rfl, rfl, rfl, w4⟩ := open_int Yba.underlying3 (hval 4 3 v4 rfl rfl) h4
  clear hA0 hval0
  simp only [List.append_nil] at hW'
  have hb3 := bounds_u8 w3
  refine (exact_any a0 x0 x1 x2 a2 a3 a4 hb3.1 hb3.2 W).mono fun e W' ⟨he, hg⟩ => ?_
  subst he
  have rdA : ∀ sp : Nat → Bool, DataW.Trod enc Yba.prog W' 0 sp true 29 (.agg #[.int .i64 x0, .int .i64 x1, .int .i64 x2]) (DataW.agg [.lit (.int .i64 x0), .lit (.int .i64 x1), .lit (.int .i64 x2)]) [] := fun sp => ⟨2, by simp [DataW.trod, Value.cells, Yba.underlying29, Yba.underlying3, cells29, cells3, u0, u1, u2, show List.range 3 = [0, 1, 2] from rfl]⟩
  exact ⟨_, rfl, post_of_same (pa := []) (pv := []) hW' (fun _ _ _ => (trodAll_cons_mk (shut_bool Yba.underlying4 _) trodAll_mk0)) (fun sp _ => (trodAll_cons_mk (shut_bool Yba.underlying4 _) (trodAll_cons_mk (rdA sp) (trodAll_cons_mk (shut_int Yba.underlying3 w2) (trodAll_cons_mk (shut_int Yba.underlying5 w3) (trodAll_cons_mk (shut_int Yba.underlying3 w4) trodAll_mk0)))))) (fun _ _ => rfl) rfl
    (hg.frame _) hg.2.1 (ok_one (by kernel_rfl) rfl (okWide_bool_mk Yba.underlying4 _))⟩

theorem over : Rows.lawS4659CExactRow.holds Yba.pinned (OpenSpec.ofChange Rows.lawS4659CExactSpec) :=
  OpenClaim.holds_of_wide 5 Yba.f5 rfl rfl rfl rfl rfl rfl rfl ⟨rfl, rfl, rfl, rfl, rfl⟩ rfl rfl rfl rfl rfl (by kernel_rfl) Yba.func5 (by kernel_rfl)
    (of_decide_eq_true (by kernel_rfl)) (by unfold Func.isWrapper; first | (rw [if_pos (by decide +kernel)]; kernel_rfl) | (rw [if_neg (by decide +kernel)]; exact ⟨rfl, rfl⟩))
    (fun os started H enc _ => lifted os started H enc)

/-- ████ THE STATEMENT ████ -/
theorem proved : Rows.LawS4659CExactSaid :=
  over
#print axioms proved
end Go.Proofs.Ybulkcrls.lawS4659CExact
