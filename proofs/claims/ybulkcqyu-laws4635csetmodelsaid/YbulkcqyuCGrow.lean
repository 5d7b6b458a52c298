/-
  clockStore.grown (19), walked.
-/
import Derived.Test.YbulkcqyuCSet
namespace Go.Proofs.Ybulkcqyu
set_option linter.unusedVariables false
set_option linter.unusedSimpArgs false
open Go.RowKit Go.Deep

structure GrowP (nd : Nat → Nat → Nat) (N fx : Nat) (pos : Nat → Nat × Nat) (nd' : Nat → Nat → Nat) (N' : Nat) (pos' : Nat → Nat × Nat) (h n r : Nat) : Prop where
  le : N ≤ N'
  le1 : N' ≤ N + 1
  same : ∀ i, i < N → ∀ j, nd' i j = nd i j
  tree : Tree nd' N' fx pos' (h + 1) 0 r
  read : ∀ x, rd nd' (h + 1) r x = if dig x (h + 1) = 0 then rd nd h n x else 0

theorem GrowP.zero {nd : Nat → Nat → Nat} {N fx : Nat} {pos : Nat → Nat × Nat} {h : Nat} (z : Zero nd) (hfx : 0 < fx) (hN : fx ≤ N) : GrowP nd N fx pos nd N pos h 0 0 :=
  ⟨Nat.le_refl _, by omega, fun _ _ _ => rfl, Tree.zero hfx hN _ _, fun x => by rw [rd_zero z, rd_zero z]; split <;> rfl⟩
theorem GrowP.made {nd nd' : Nat → Nat → Nat} {N fx : Nat} {pos : Nat → Nat × Nat} {h n : Nat} (z : Zero nd) (hfx : 0 < fx) (hN : fx ≤ N) (t : Tree nd N fx pos h 0 n) (same : ∀ i, i < N → ∀ j, nd' i j = nd i j) (g0 : nd' N 0 = n) (g1 : nd' N 1 = 0) (g2 : nd' N 2 = 0) (g3 : nd' N 3 = 0) : GrowP nd N fx pos nd' (N + 1) (fun i => if i = N then (h + 1, 0) else pos i) h n N := by
  have z' : Zero nd' := fun j => by rw [same 0 (by omega)]; exact z j
  have mv := Tree.move (nd' := nd') (N' := N + 1) (pos' := fun i => if i = N then (h + 1, 0) else pos i) (fun _ _ => True) (fun _ _ _ _ _ => trivial) hfx hN (Nat.le_succ _) (fun i hi _ => ⟨fun j _ => same i hi j, if_neg (by omega)⟩) trivial t
  have hk : ∀ j, j < 4 → nd' N j = if j = 0 then n else 0 := by
    intro j hj
    rcases j with _ | _ | _ | _ | j
    · rw [g0]; rfl
    · rw [g1]; rfl
    · rw [g2]; rfl
    · rw [g3]; rfl
    · omega
  refine ⟨by omega, by omega, same, ⟨by omega, fun _ => if_pos rfl, fun _ j hj => ?_⟩, fun x => ?_⟩
  · rw [hk j hj]
    by_cases e : j = 0
    · subst e; rw [if_pos rfl]; exact mv.1
    · rw [if_neg e]; exact Tree.zero hfx (by omega) _ _
  · rw [rd_succ z', hk _ (dig_lt _ _)]
    by_cases e : dig x (h + 1) = 0
    · rw [if_pos e, if_pos e]; exact mv.2 x
    · rw [if_neg e, if_neg e]; exact rd_zero z' _ _

def GrowPost (w w' : World) (base b N fx : Nat) (nd : Nat → Nat → Nat) (Fp : Nat → Prop) (pos : Nat → Nat × Nat) (h n r : Nat) : Prop :=
  ∃ nd' N' pos' Fp', Str w' base b N' fx nd' Fp' ∧ Step w w' Fp Fp' ∧ GrowP nd N fx pos nd' N' pos' h n r

theorem results_cell1 {fn : Func} {p : Tmp} {ty : TypeId} (h : fn.results = #[.cell p ty]) (tmps : Array Value) (P : Program) (w : World) :
    (results fn tmps).run P w = ((asAddr (tmps.getD p undef)).run P w).andThen fun a w₁ => (loadVar ty a).run P w₁ := by
  simp only [results, h]
  simp [Sem.run_bind, Result.andThen]

/-- a call's own variables lie outside the footprint -/
theorem Str.wrapUp {w W w' w'' : World} {base b N fx : Nat} {nd : Nat → Nat → Nat} {Fp Fp' S : Nat → Prop} (hc : Chg (fun _ => False) w W) (hs : Step W w' Fp Fp') (H' : Str w' base b N fx nd Fp') (hb : ∀ x, Fp x → x < w.heap.size) (hk : ∀ x, S x → w.heap.size ≤ x ∧ x < W.heap.size) (hc2 : Chg S w' w'') :
    Str w'' base b N fx nd Fp' ∧ Step w w'' Fp Fp' :=
  ⟨H'.keep hc2 (fun x hx => hs.far (fun hf => by have := hb x hf; have := (hk x hx).1; omega) (hk x hx).2), (hs.after hc).before (hc2.mono (fun x hx => (hk x hx).1))⟩

theorem chg_pair (w : World) (k : Nat) (u v : Value) : Chg (fun x => x = k) w ((w.setCell ⟨k, 0, none⟩ u).setCell ⟨k, 1, none⟩ v) :=
  ((Chg.refl (fun x => x = k) w).setCell (p := ⟨k, 0, none⟩) (fun _ => rfl) u).setCell (p := ⟨k, 1, none⟩) (fun _ => rfl) v

set_option maxHeartbeats 400000 in
theorem grown_any {base b fx h : Nat} (hh : h ≤ 10) (hfx : 0 < fx) (w : World) (N : Nat) (nd : Nat → Nat → Nat) (pos : Nat → Nat × Nat) (Fp : Nat → Prop) (n : Nat)
    (H : Hid (Str w base b N fx nd Fp)) (z : Zero nd) (hfN : fx ≤ N) (hN : N < 400000) (t : Tree nd N fx pos h 0 n) :
    Calls Yba.prog 19 #[.pointer (some ⟨b, 0, none⟩), .agg #[.int .u32 n, .int .i32 h]] w fun r w' => ∃ m : Nat, r = .returned (.agg #[.int .u32 m, .int .i32 ((h : Int) + 1)]) ∧ GrowPost w w' base b N fx nd Fp pos h n m := by
  by_cases hn : n = 0
  · subst hn
    go_enter Yba.func19, Yba.ntmps19
    go_wp2_with fail
    refine bodyPost_ret (v := .agg #[.int .u32 (0 : Nat), .int .i32 ((h : Int) + 1)]) ?_ rfl ⟨0, rfl, nd, N, pos, Fp, H.out.grow (((Chg.refl _ _).alloc _).alloc _), Step.after (((Chg.refl _ _).alloc _).alloc _) (Step.refl _ _), GrowP.zero z hfx hfN⟩
    rw [results_cell1 rfl]
    go_simp
  · obtain ⟨W, hW⟩ : ∃ W, W = (w.alloc (.cells #[.int .u32 n, .int .i32 h] 55)).alloc (.cells #[.int .u32 0, .int .i32 0] 55) := ⟨_, rfl⟩
    have hcW : Chg (fun _ => False) w W := by rw [hW]; exact ((Chg.refl _ _).alloc _).alloc _
    have szW : W.heap.size = w.heap.size + 2 := by rw [hW]; simp
    have d0 : W.cell? ⟨w.heap.size, 0, none⟩ = some (.int .u32 n) := by rw [hW]; simp [go_sem]
    have d1 : W.cell? ⟨w.heap.size, 1, none⟩ = some (.int .i32 h) := by rw [hW]; simp [go_sem]
    have r0 : W.cell? ⟨w.heap.size + 1, 0, none⟩ = some (.int .u32 0) := by rw [hW]; simp [go_sem]
    have r1 : W.cell? ⟨w.heap.size + 1, 1, none⟩ = some (.int .i32 0) := by rw [hW]; simp [go_sem]
    have hrow : W.rowIs (w.heap.size + 1) 55 2 (fun o => if o = 0 then .int .u32 0 else .int .i32 0) := by
      rw [hW]; refine ⟨_, by have := blk_alloc_new (w.alloc (.cells #[.int .u32 n, .int .i32 h] 55)) (.cells #[.int .u32 0, .int .i32 0] 55); simpa using this, rfl, fun i hi => ?_⟩
      rcases i with _ | _ | i
      · rfl
      · rfl
      · omega
    have hcall : Hid (Calls Yba.prog 15 #[.pointer (some ⟨b, 0, none⟩), .agg #[.int .u32 n, .int .u32 (0 : Nat), .int .u32 (0 : Nat), .int .u32 (0 : Nat)]] W.drew fun e w' => e = .returned (.int .u32 N) ∧ (∀ w'', Chg (fun x => x = w.heap.size + 1) w' w'' → GrowPost w w'' base b N fx nd Fp pos h n N) ∧ w'.cell? ⟨w.heap.size, 0, none⟩ = some (.int .u32 n) ∧ w'.cell? ⟨w.heap.size, 1, none⟩ = some (.int .i32 h) ∧ w'.rowIs (w.heap.size + 1) 55 2 (fun o => if o = 0 then .int .u32 0 else .int .i32 0)) := by
      refine (make_any n 0 0 0 W.drew (H.out.grow (hcW.drew)) (by omega)).mono ?_
      rintro e w' ⟨he, nd', Fp', h1, h2, h3, g0, g1, g2, g3⟩
      have hf : ¬ Fp w.heap.size := fun hf => by have := H.out.lt hf; omega
      have hf1 : ¬ Fp (w.heap.size + 1) := fun hf => by have := H.out.lt hf; omega
      have zz : ∀ o, w'.cell? ⟨w.heap.size, o, none⟩ = W.cell? ⟨w.heap.size, o, none⟩ := fun o => h2.1.cell (w := W.drew) (by show w.heap.size < W.heap.size; omega) hf
      have hr : W.drew.rowIs (w.heap.size + 1) 55 2 (fun o => if o = 0 then .int .u32 0 else .int .i32 0) := hrow
      have hs2 : W.heap.size ≤ w'.heap.size := h2.1.size
      refine ⟨he, fun w'' hc2 => ?_, by rw [zz]; exact d0, by rw [zz]; exact d1, h2.1.row hr hf1⟩
      obtain ⟨q1, q2⟩ := Str.wrapUp hcW.drew h2 h1 (fun x => H.out.lt) (fun x hx => ⟨by omega, by show x < W.heap.size; omega⟩) hc2
      exact ⟨nd', N + 1, _, Fp', q1, q2, GrowP.made z hfx hfN t h3 g0 g1 g2 g3⟩
    have HW : Hid (W = (w.alloc (.cells #[.int .u32 n, .int .i32 h] 55)).alloc (.cells #[.int .u32 0, .int .i32 0] 55)) := hW
    clear hW hcW hrow
    have hb : ((n : Int) == 0) = false := by simp; omega
    have hw1 : IntKind.i32.wrap ((h : Int) + 1) = (h : Int) + 1 := wraps_i32 _ (by omega) (by omega)
    go_enter Yba.func19, Yba.ntmps19
    go_wp2_with fail
    rw [← HW.out]
    go_region_with (go_at_call 15; refine Calls.mono hcall.out ?_; rintro e w' ⟨rfl, hpost, b0, b1, hrow⟩; have HP : Hid (∀ w'', Chg (fun x => x = w.heap.size + 1) w' w'' → GrowPost w w'' base b N fx nd Fp pos h n N) := hpost; clear hpost; have HRow : Hid _ := hrow; have s0 := hrow.cell (i := 0) (by omega); have s1 := hrow.cell (i := 1) (by omega); have f0 := hrow.frozen 0; have f1 := hrow.frozen 1; simp at s0 s1; clear hrow)
    all_goals
      go_wp2_with fail
      refine bodyPost_ret (v := .agg #[.int .u32 N, .int .i32 ((h : Int) + 1)]) ?_ rfl ⟨N, rfl, HP.out _ (chg_pair _ _ _ _)⟩
      rw [results_cell1 rfl]
      go_simp
end Go.Proofs.Ybulkcqyu
