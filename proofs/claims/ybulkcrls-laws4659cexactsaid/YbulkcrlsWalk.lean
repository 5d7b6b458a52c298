/-
  verdict.with (10) and LawS4659CExact (5), walked.
-/
import Derived.Test.YbulkcrlsRows
import Derived.WalkKit
import Derived.ProofKit
import Derived.LoopN
import Derived.Laws.StructEq
namespace Go.Proofs.Ybulkcrls
set_option linter.unusedVariables false
set_option linter.unusedSimpArgs false
open Go.RowKit

theorem results_cell1 {P : Program} {fn : Func} {tmps : Array Value} {p : Nat} {ty : TypeId} (h : fn.results = #[.cell p ty]) (w : World) :
    (results fn tmps).run P w = ((asAddr (tmps.getD p undef)).run P w).andThen fun a w₁ => (loadVar ty a).run P w₁ := by
  simp only [results, h]
  simp [Sem.run_bind, Result.andThen]

/-- two new verdicts, the second handed back -/
def With (d : Bool) (x0 x1 x2 : Int) (w : World) (e : Ending) (w' : World) : Prop := e = .returned (.agg #[.bool d, .int .i64 x0, .int .i64 x1, .int .i64 x2]) ∧ w' = (w.alloc (.cells #[.bool d, .int .i64 x0, .int .i64 x1, .int .i64 x2] 34)).alloc (.cells #[.bool d, .int .i64 x0, .int .i64 x1, .int .i64 x2] 34)

theorem eq32 (a b c : Int) (w : World) : (Op.equalIn 9999 32 (.agg #[.int .i64 a, .int .i64 b, .int .i64 c]) (.agg #[.int .i64 a, .int .i64 b, .int .i64 c])).run Yba.prog w = .ok true w := by
  have u31 := Yba.underlying31
  have a31 := Yba.isAgg31
  have z31 := Yba.sizeOf31
  rw [show (9999 : Nat) = 9998 + 1 from rfl, Op.equalIn]
  simp only [Sem.run_bind, run_underlying Yba.underlying32, Result.andThen_ok]
  simp only [Std.Legacy.Range.forIn_eq_forIn_range', Std.Legacy.Range.size, Nat.sub_zero, Nat.add_sub_cancel, Nat.div_one, List.range'_succ, List.range'_zero, List.forIn_cons, List.forIn_nil]
  go_simp

theorem with_deny (d : Bool) (x0 x1 x2 k m : Int) (w : World) :
    Calls Yba.prog 10 #[.agg #[.bool d, .int .i64 x0, .int .i64 x1, .int .i64 x2], .int .i64 1, .int .i64 k, .int .i64 m] w (With true x0 x1 x2 w) := by
  go_enter Yba.func10, Yba.ntmps10
  go_wp2_with fail
  refine bodyPost_ret (v := .agg #[.bool true, .int .i64 x0, .int .i64 x1, .int .i64 x2]) ?_ rfl ⟨rfl, rfl⟩
  rw [results_cell1 rfl]
  go_simp
theorem with_other (d : Bool) (x0 x1 x2 e k m : Int) (h0 : (e == 0) = false) (h1 : (e == 1) = false) (w : World) :
    Calls Yba.prog 10 #[.agg #[.bool d, .int .i64 x0, .int .i64 x1, .int .i64 x2], .int .i64 e, .int .i64 k, .int .i64 m] w (With d x0 x1 x2 w) := by
  go_enter Yba.func10, Yba.ntmps10
  go_wp2_with fail
  refine bodyPost_ret (v := .agg #[.bool d, .int .i64 x0, .int .i64 x1, .int .i64 x2]) ?_ rfl ⟨rfl, rfl⟩
  rw [results_cell1 rfl]
  go_simp
theorem with_up0 (d : Bool) (x0 x1 x2 m : Int) (hm : x0 < m) (w : World) :
    Calls Yba.prog 10 #[.agg #[.bool d, .int .i64 x0, .int .i64 x1, .int .i64 x2], .int .i64 0, .int .i64 0, .int .i64 m] w (With d m x1 x2 w) := by
  go_enter Yba.func10, Yba.ntmps10
  go_wp2_with fail
  refine bodyPost_ret (v := .agg #[.bool d, .int .i64 m, .int .i64 x1, .int .i64 x2]) ?_ rfl ⟨rfl, rfl⟩
  rw [results_cell1 rfl]
  go_simp
theorem with_stay0 (d : Bool) (x0 x1 x2 m : Int) (hm : m ≤ x0) (w : World) :
    Calls Yba.prog 10 #[.agg #[.bool d, .int .i64 x0, .int .i64 x1, .int .i64 x2], .int .i64 0, .int .i64 0, .int .i64 m] w (With d x0 x1 x2 w) := by
  go_enter Yba.func10, Yba.ntmps10
  go_wp2_with fail
  refine bodyPost_ret (v := .agg #[.bool d, .int .i64 x0, .int .i64 x1, .int .i64 x2]) ?_ rfl ⟨rfl, rfl⟩
  rw [results_cell1 rfl]
  go_simp
theorem with_up1 (d : Bool) (x0 x1 x2 m : Int) (hm : x1 < m) (w : World) :
    Calls Yba.prog 10 #[.agg #[.bool d, .int .i64 x0, .int .i64 x1, .int .i64 x2], .int .i64 0, .int .i64 1, .int .i64 m] w (With d x0 m x2 w) := by
  go_enter Yba.func10, Yba.ntmps10
  go_wp2_with fail
  refine bodyPost_ret (v := .agg #[.bool d, .int .i64 x0, .int .i64 m, .int .i64 x2]) ?_ rfl ⟨rfl, rfl⟩
  rw [results_cell1 rfl]
  go_simp
theorem with_stay1 (d : Bool) (x0 x1 x2 m : Int) (hm : m ≤ x1) (w : World) :
    Calls Yba.prog 10 #[.agg #[.bool d, .int .i64 x0, .int .i64 x1, .int .i64 x2], .int .i64 0, .int .i64 1, .int .i64 m] w (With d x0 x1 x2 w) := by
  go_enter Yba.func10, Yba.ntmps10
  go_wp2_with fail
  refine bodyPost_ret (v := .agg #[.bool d, .int .i64 x0, .int .i64 x1, .int .i64 x2]) ?_ rfl ⟨rfl, rfl⟩
  rw [results_cell1 rfl]
  go_simp
theorem with_up2 (d : Bool) (x0 x1 x2 m : Int) (hm : x2 < m) (w : World) :
    Calls Yba.prog 10 #[.agg #[.bool d, .int .i64 x0, .int .i64 x1, .int .i64 x2], .int .i64 0, .int .i64 2, .int .i64 m] w (With d x0 x1 m w) := by
  go_enter Yba.func10, Yba.ntmps10
  go_wp2_with fail
  refine bodyPost_ret (v := .agg #[.bool d, .int .i64 x0, .int .i64 x1, .int .i64 m]) ?_ rfl ⟨rfl, rfl⟩
  rw [results_cell1 rfl]
  go_simp
theorem with_stay2 (d : Bool) (x0 x1 x2 m : Int) (hm : m ≤ x2) (w : World) :
    Calls Yba.prog 10 #[.agg #[.bool d, .int .i64 x0, .int .i64 x1, .int .i64 x2], .int .i64 0, .int .i64 2, .int .i64 m] w (With d x0 x1 x2 w) := by
  go_enter Yba.func10, Yba.ntmps10
  go_wp2_with fail
  refine bodyPost_ret (v := .agg #[.bool d, .int .i64 x0, .int .i64 x1, .int .i64 x2]) ?_ rfl ⟨rfl, rfl⟩
  rw [results_cell1 rfl]
  go_simp

theorem exact_deny (d : Bool) (x0 x1 x2 k m : Int) (h0 : 0 ≤ k) (h1 : k ≤ 255) (w : World) :
    Calls Yba.prog 5 #[.bool d, .agg #[.int .i64 x0, .int .i64 x1, .int .i64 x2], .int .i64 1, .int .u8 k, .int .i64 m] w fun e w' => e = .returned (.bool true) ∧ Grown w w' := by
  have he := eq32
  go_enter Yba.func5, Yba.ntmps5
  go_wp2_with fail
  refine wp_loop_rounds 4 ?_
  rw [rounds_succ]
  go_wp2_with fail
  refine (rounds_succ (n := 2)).mpr ?_
  go_wp2_with fail
  refine (rounds_succ (n := 1)).mpr ?_
  go_wp2_with fail
  refine (rounds_succ (n := 0)).mpr ?_
  go_wp2_with fail
  refine Calls.mono (with_deny d x0 x1 x2 _ m _) ?_
  rintro e w4 ⟨rfl, rfl⟩
  go_wp2_with fail
  go_ret
  exact ⟨rfl, (((((((Grown.refl w).alloc _ _).alloc _ _).alloc _ _).alloc _ _).alloc _ _).alloc _ _).alloc _ _⟩
theorem exact_other (d : Bool) (x0 x1 x2 e k m : Int) (e0 : (e == 0) = false) (e1 : (e == 1) = false) (h0 : 0 ≤ k) (h1 : k ≤ 255) (w : World) :
    Calls Yba.prog 5 #[.bool d, .agg #[.int .i64 x0, .int .i64 x1, .int .i64 x2], .int .i64 e, .int .u8 k, .int .i64 m] w fun e w' => e = .returned (.bool true) ∧ Grown w w' := by
  have he := eq32
  go_enter Yba.func5, Yba.ntmps5
  go_wp2_with fail
  refine wp_loop_rounds 4 ?_
  rw [rounds_succ]
  go_wp2_with fail
  refine (rounds_succ (n := 2)).mpr ?_
  go_wp2_with fail
  refine (rounds_succ (n := 1)).mpr ?_
  go_wp2_with fail
  refine (rounds_succ (n := 0)).mpr ?_
  go_wp2_with fail
  refine Calls.mono (with_other d x0 x1 x2 e _ m e0 e1 _) ?_
  rintro e w4 ⟨rfl, rfl⟩
  go_wp2_with fail
  go_ret
  exact ⟨rfl, (((((((Grown.refl w).alloc _ _).alloc _ _).alloc _ _).alloc _ _).alloc _ _).alloc _ _).alloc _ _⟩
theorem exact_up0 (d : Bool) (x0 x1 x2 k m : Int) (hk : k % 3 = 0) (hm : x0 < m) (h0 : 0 ≤ k) (h1 : k ≤ 255) (w : World) :
    Calls Yba.prog 5 #[.bool d, .agg #[.int .i64 x0, .int .i64 x1, .int .i64 x2], .int .i64 0, .int .u8 k, .int .i64 m] w fun e w' => e = .returned (.bool true) ∧ Grown w w' := by
  have he := eq32
  have hd : decide (x0 < m) = true := decide_eq_true hm
  go_enter Yba.func5, Yba.ntmps5
  go_wp2_with fail
  refine wp_loop_rounds 4 ?_
  rw [rounds_succ]
  go_wp2_with fail
  refine (rounds_succ (n := 2)).mpr ?_
  go_wp2_with fail
  refine (rounds_succ (n := 1)).mpr ?_
  go_wp2_with fail
  refine (rounds_succ (n := 0)).mpr ?_
  go_wp2_with fail
  refine Calls.mono (with_up0 d x0 x1 x2 m hm _) ?_
  rintro e w4 ⟨rfl, rfl⟩
  go_wp2_with fail
  go_ret
  exact ⟨rfl, (((((((Grown.refl w).alloc _ _).alloc _ _).alloc _ _).alloc _ _).alloc _ _).alloc _ _).alloc _ _⟩
theorem exact_stay0 (d : Bool) (x0 x1 x2 k m : Int) (hk : k % 3 = 0) (hm : m ≤ x0) (h0 : 0 ≤ k) (h1 : k ≤ 255) (w : World) :
    Calls Yba.prog 5 #[.bool d, .agg #[.int .i64 x0, .int .i64 x1, .int .i64 x2], .int .i64 0, .int .u8 k, .int .i64 m] w fun e w' => e = .returned (.bool true) ∧ Grown w w' := by
  have he := eq32
  have hd : decide (x0 < m) = false := decide_eq_false (by omega)
  go_enter Yba.func5, Yba.ntmps5
  go_wp2_with fail
  refine wp_loop_rounds 4 ?_
  rw [rounds_succ]
  go_wp2_with fail
  refine (rounds_succ (n := 2)).mpr ?_
  go_wp2_with fail
  refine (rounds_succ (n := 1)).mpr ?_
  go_wp2_with fail
  refine (rounds_succ (n := 0)).mpr ?_
  go_wp2_with fail
  refine Calls.mono (with_stay0 d x0 x1 x2 m hm _) ?_
  rintro e w4 ⟨rfl, rfl⟩
  go_wp2_with fail
  go_ret
  exact ⟨rfl, (((((((Grown.refl w).alloc _ _).alloc _ _).alloc _ _).alloc _ _).alloc _ _).alloc _ _).alloc _ _⟩
theorem exact_up1 (d : Bool) (x0 x1 x2 k m : Int) (hk : k % 3 = 1) (hm : x1 < m) (h0 : 0 ≤ k) (h1 : k ≤ 255) (w : World) :
    Calls Yba.prog 5 #[.bool d, .agg #[.int .i64 x0, .int .i64 x1, .int .i64 x2], .int .i64 0, .int .u8 k, .int .i64 m] w fun e w' => e = .returned (.bool true) ∧ Grown w w' := by
  have he := eq32
  have hd : decide (x1 < m) = true := decide_eq_true hm
  go_enter Yba.func5, Yba.ntmps5
  go_wp2_with fail
  refine wp_loop_rounds 4 ?_
  rw [rounds_succ]
  go_wp2_with fail
  refine (rounds_succ (n := 2)).mpr ?_
  go_wp2_with fail
  refine (rounds_succ (n := 1)).mpr ?_
  go_wp2_with fail
  refine (rounds_succ (n := 0)).mpr ?_
  go_wp2_with fail
  refine Calls.mono (with_up1 d x0 x1 x2 m hm _) ?_
  rintro e w4 ⟨rfl, rfl⟩
  go_wp2_with fail
  go_ret
  exact ⟨rfl, (((((((Grown.refl w).alloc _ _).alloc _ _).alloc _ _).alloc _ _).alloc _ _).alloc _ _).alloc _ _⟩
theorem exact_stay1 (d : Bool) (x0 x1 x2 k m : Int) (hk : k % 3 = 1) (hm : m ≤ x1) (h0 : 0 ≤ k) (h1 : k ≤ 255) (w : World) :
    Calls Yba.prog 5 #[.bool d, .agg #[.int .i64 x0, .int .i64 x1, .int .i64 x2], .int .i64 0, .int .u8 k, .int .i64 m] w fun e w' => e = .returned (.bool true) ∧ Grown w w' := by
  have he := eq32
  have hd : decide (x1 < m) = false := decide_eq_false (by omega)
  go_enter Yba.func5, Yba.ntmps5
  go_wp2_with fail
  refine wp_loop_rounds 4 ?_
  rw [rounds_succ]
  go_wp2_with fail
  refine (rounds_succ (n := 2)).mpr ?_
  go_wp2_with fail
  refine (rounds_succ (n := 1)).mpr ?_
  go_wp2_with fail
  refine (rounds_succ (n := 0)).mpr ?_
  go_wp2_with fail
  refine Calls.mono (with_stay1 d x0 x1 x2 m hm _) ?_
  rintro e w4 ⟨rfl, rfl⟩
  go_wp2_with fail
  go_ret
  exact ⟨rfl, (((((((Grown.refl w).alloc _ _).alloc _ _).alloc _ _).alloc _ _).alloc _ _).alloc _ _).alloc _ _⟩
theorem exact_up2 (d : Bool) (x0 x1 x2 k m : Int) (hk : k % 3 = 2) (hm : x2 < m) (h0 : 0 ≤ k) (h1 : k ≤ 255) (w : World) :
    Calls Yba.prog 5 #[.bool d, .agg #[.int .i64 x0, .int .i64 x1, .int .i64 x2], .int .i64 0, .int .u8 k, .int .i64 m] w fun e w' => e = .returned (.bool true) ∧ Grown w w' := by
  have he := eq32
  have hd : decide (x2 < m) = true := decide_eq_true hm
  go_enter Yba.func5, Yba.ntmps5
  go_wp2_with fail
  refine wp_loop_rounds 4 ?_
  rw [rounds_succ]
  go_wp2_with fail
  refine (rounds_succ (n := 2)).mpr ?_
  go_wp2_with fail
  refine (rounds_succ (n := 1)).mpr ?_
  go_wp2_with fail
  refine (rounds_succ (n := 0)).mpr ?_
  go_wp2_with fail
  refine Calls.mono (with_up2 d x0 x1 x2 m hm _) ?_
  rintro e w4 ⟨rfl, rfl⟩
  go_wp2_with fail
  go_ret
  exact ⟨rfl, (((((((Grown.refl w).alloc _ _).alloc _ _).alloc _ _).alloc _ _).alloc _ _).alloc _ _).alloc _ _⟩
theorem exact_stay2 (d : Bool) (x0 x1 x2 k m : Int) (hk : k % 3 = 2) (hm : m ≤ x2) (h0 : 0 ≤ k) (h1 : k ≤ 255) (w : World) :
    Calls Yba.prog 5 #[.bool d, .agg #[.int .i64 x0, .int .i64 x1, .int .i64 x2], .int .i64 0, .int .u8 k, .int .i64 m] w fun e w' => e = .returned (.bool true) ∧ Grown w w' := by
  have he := eq32
  have hd : decide (x2 < m) = false := decide_eq_false (by omega)
  go_enter Yba.func5, Yba.ntmps5
  go_wp2_with fail
  refine wp_loop_rounds 4 ?_
  rw [rounds_succ]
  go_wp2_with fail
  refine (rounds_succ (n := 2)).mpr ?_
  go_wp2_with fail
  refine (rounds_succ (n := 1)).mpr ?_
  go_wp2_with fail
  refine (rounds_succ (n := 0)).mpr ?_
  go_wp2_with fail
  refine Calls.mono (with_stay2 d x0 x1 x2 m hm _) ?_
  rintro e w4 ⟨rfl, rfl⟩
  go_wp2_with fail
  go_ret
  exact ⟨rfl, (((((((Grown.refl w).alloc _ _).alloc _ _).alloc _ _).alloc _ _).alloc _ _).alloc _ _).alloc _ _⟩

theorem exact_any (d : Bool) (x0 x1 x2 e k m : Int) (h0 : 0 ≤ k) (h1 : k ≤ 255) (w : World) :
    Calls Yba.prog 5 #[.bool d, .agg #[.int .i64 x0, .int .i64 x1, .int .i64 x2], .int .i64 e, .int .u8 k, .int .i64 m] w fun e w' => e = .returned (.bool true) ∧ Grown w w' := by
  by_cases e1 : e = 1
  · subst e1
    exact exact_deny d x0 x1 x2 k m h0 h1 w
  · by_cases e0 : e = 0
    · subst e0
      rcases (by omega : k % 3 = 0 ∨ k % 3 = 1 ∨ k % 3 = 2) with hk | hk | hk
      · rcases Int.lt_or_le x0 m with hm | hm
        · exact exact_up0 d x0 x1 x2 k m hk hm h0 h1 w
        · exact exact_stay0 d x0 x1 x2 k m hk hm h0 h1 w
      · rcases Int.lt_or_le x1 m with hm | hm
        · exact exact_up1 d x0 x1 x2 k m hk hm h0 h1 w
        · exact exact_stay1 d x0 x1 x2 k m hk hm h0 h1 w
      · rcases Int.lt_or_le x2 m with hm | hm
        · exact exact_up2 d x0 x1 x2 k m hk hm h0 h1 w
        · exact exact_stay2 d x0 x1 x2 k m hk hm h0 h1 w
    · exact exact_other d x0 x1 x2 e k m (beq_eq_false_iff_ne.2 e0) (beq_eq_false_iff_ne.2 e1) h0 h1 w
end Go.Proofs.Ybulkcrls
