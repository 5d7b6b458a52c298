/-
  newClockStore (8), walked.
-/
import Derived.Test.YbulkcqyuCShare
namespace Go.Proofs.Ybulkcqyu
set_option linter.unusedVariables false
set_option linter.unusedSimpArgs false
open Go.RowKit Go.Deep

/-- a store's struct -/
def srow (lv : Value) (N fx : Nat) : Nat → Value := fun o => if o = 0 then lv else if o = 1 then .int .u32 (N : Int) else .int .u32 (fx : Int)
theorem srow_new (w : World) (lv : Value) (N fx : Nat) : (w.alloc (.cells #[lv, .int .u32 (N : Int), .int .u32 (fx : Int)] 51)).rowIs w.heap.size 51 3 (srow lv N fx) := by
  refine ⟨_, blk_alloc_new _ _, rfl, fun i hi => ?_⟩
  rcases i with _ | _ | _ | i
  · rfl
  · rfl
  · rfl
  · omega
/-- a store copied into a new variable -/
theorem St.moved {w : World} {base b N fx : Nat} {nd : Nat → Nat → Nat} {lv : Value} {ll : Nat} {cb : Nat → Nat} (h : St w base b N fx nd lv ll cb) : St (w.alloc (.cells #[lv, .int .u32 (N : Int), .int .u32 (fx : Int)] 51)) base w.heap.size N fx nd lv ll cb := by
  have hc : Chg (fun _ => False) w (w.alloc (.cells #[lv, .int .u32 (N : Int), .int .u32 (fx : Int)] 51)) := (Chg.refl _ _).alloc _
  refine ⟨srow_new _ _ _ _, hc.owns h.own (fun _ _ x => x), fun q hq => hc.row (h.chunk q hq) (fun x => x), h.room, h.lo, fun q hq e => ?_, h.nl, fun e => ?_, h.inj⟩
  · have := (h.chunk q hq).lt; omega
  · have := (h.own.lt _ e).2; omega
theorem Str.congr {w : World} {base b N fx : Nat} {nd nd' : Nat → Nat → Nat} {Fp : Nat → Prop} (h : Str w base b N fx nd Fp) (e : ∀ i j, j < 4 → nd i j = nd' i j) : Str w base b N fx nd' Fp := by
  obtain ⟨lv, ll, cb, hs, hf, hb, hll⟩ := h
  exact ⟨lv, ll, cb, hs.congr (fun i _ j hj => e i j hj), hf, hb, hll⟩

theorem Chg.clean {S : Nat → Prop} {w w' : World} (h : Chg S w w') (hS : ∀ x, S x → w.heap.size ≤ x) : Chg (fun _ => False) w w' :=
  ⟨h.os, h.tape, h.output, h.size, fun k hk _ => h.block k hk (fun hs => by have := hS k hs; omega)⟩

set_option maxHeartbeats 400000 in
theorem new_any (w : World) :
    Calls Yba.prog 8 #[] w fun e w' => ∃ lv ll cb nd, e = .returned (.agg #[lv, .int .u32 (1 : Nat), .int .u32 (1 : Nat)]) ∧ St w' w.heap.size (w.heap.size + 1) 1 1 nd lv ll cb ∧ ll * 4096 ≤ 4097 ∧ Zero nd ∧ Chg (fun _ => False) w w' := by
  obtain ⟨W, hW⟩ : ∃ W, W = (w.alloc (.cells #[.slice none 0 0, .int .u32 0, .int .u32 0] 51)).alloc (.cells #[.slice none 0 0, .int .u32 0, .int .u32 0] 51) := ⟨_, rfl⟩
  have HW : Hid (W = (w.alloc (.cells #[.slice none 0 0, .int .u32 0, .int .u32 0] 51)).alloc (.cells #[.slice none 0 0, .int .u32 0, .int .u32 0] 51)) := hW
  have hcW : Hid (Chg (fun _ => False) w W) := by rw [hW]; exact ((Chg.refl _ _).alloc _).alloc _
  have szW : W.heap.size = w.heap.size + 2 := by rw [hW]; simp
  have r0 : Hid (W.rowIs w.heap.size 51 3 (srow (.slice none 0 0) 0 0)) := by
    rw [hW]; exact ((Chg.refl (fun _ => False) _).alloc _).row (srow_new w _ 0 0) (fun x => x)
  have r1 : Hid (W.rowIs (w.heap.size + 1) 51 3 (srow (.slice none 0 0) 0 0)) := by
    have := srow_new (w.alloc (.cells #[.slice none 0 0, .int .u32 (0 : Nat), .int .u32 (0 : Nat)] 51)) (.slice none 0 0) 0 0
    rw [show (w.alloc (.cells #[.slice none 0 0, .int .u32 (0 : Nat), .int .u32 (0 : Nat)] 51)).heap.size = w.heap.size + 1 by simp] at this
    rw [hW]; exact this
  clear hW
  have hs0 : Str W w.heap.size (w.heap.size + 1) 0 0 (fun _ _ => 0) (Foot (w.heap.size + 1) (.slice none 0 0) 0 (fun _ => 0)) := by
    refine ⟨.slice none 0 0, 0, fun _ => 0, ⟨r1.out, World.ownsRow_nil _ _ _ _, fun q hq => absurd hq (by omega), by omega, fun q hq => absurd hq (by omega), fun q hq => absurd hq (by omega), fun q hq => absurd hq (by omega), by simp [Value.ownBlock], fun q _ hq => absurd hq (by omega)⟩, fun _ => Iff.rfl, by omega, by omega⟩
  have hcall := (show Hid _ from make_any 0 0 0 0 W hs0 (by omega))
  have hF : Hid (∀ x, Foot (w.heap.size + 1) (.slice none 0 0) 0 (fun _ => 0) x → x = w.heap.size + 1) := fun x hx => by
    rcases hx with h | h | ⟨q, hq, _⟩
    · exact h
    · simp [Value.ownBlock] at h
    · omega
  generalize Foot (w.heap.size + 1) (.slice none 0 0) 0 (fun _ => 0) = Fp at hcall hF
  clear hs0
  go_enter Yba.func8, Yba.ntmps8
  go_wp2_with fail
  rw [← HW.out]
  refine Calls.mono hcall.out ?_
  rintro e w1 ⟨rfl, nd', Fp', h1, h2, h3, g0, g1, g2, g3⟩
  obtain ⟨nd, hz, h1'⟩ : ∃ nd, Zero nd ∧ Str w1 w.heap.size (w.heap.size + 1) (0 + 1) 0 nd Fp' := by
    refine ⟨fun i j => if j < 4 then nd' i j else 0, fun j => ?_, h1.congr (fun i j hj => (if_pos hj).symm)⟩
    rcases j with _ | _ | _ | _ | j
    · exact g0
    · exact g1
    · exact g2
    · exact g3
    · rfl
  clear h1 g0 g1 g2 g3 h3
  obtain ⟨lv, ll, cb, hs, hf, hb, hll⟩ := h1'
  obtain ⟨ao, lc, rfl⟩ := ownsRow_slice hs.own
  have hfix := (show Hid _ from fix_any w1 hs)
  have q0 := h2.1.row r0.out (fun hx => by have := hF.out _ hx; omega)
  have hfar : ¬ Foot (w.heap.size + 1) (.slice ao ll lc) ll cb w.heap.size := fun hx => h2.far (fun hx => by have := hF.out _ hx; omega) (by omega) ((hf _).2 hx)
  have HS2 : Hid (St (w1.setCell ⟨w.heap.size + 1, 2, none⟩ (.int .u32 ((0 + 1 : Nat) : Int))) w.heap.size (w.heap.size + 1) (0 + 1) (0 + 1) nd (.slice ao ll lc) ll cb) := hs.fixed
  have hc2 : Chg (fun x => x = w.heap.size + 1) w1 (w1.setCell ⟨w.heap.size + 1, 2, none⟩ (.int .u32 ((0 + 1 : Nat) : Int))) := (Chg.refl (fun x => x = w.heap.size + 1) w1).setCell (p := ⟨w.heap.size + 1, 2, none⟩) (fun _ => rfl) _
  have Q0 : Hid ((w1.setCell ⟨w.heap.size + 1, 2, none⟩ (.int .u32 ((0 + 1 : Nat) : Int))).rowIs w.heap.size 51 3 (srow (.slice none 0 0) 0 0)) := hc2.row q0 (by omega)
  have HC : Hid (Chg (fun x => w.heap.size ≤ x) w (w1.setCell ⟨w.heap.size + 1, 2, none⟩ (.int .u32 ((0 + 1 : Nat) : Int)))) :=
    ((hcW.out.mono (fun _ x => x.elim)).andThen h2.1 (fun x hx _ => by have := hF.out _ hx; omega)).andThen hc2 (fun x hx _ => by omega)
  clear hc2 q0 h2 hs hb
  go_wp2_with fail
  refine Calls.mono hfix.out ?_
  rintro e w2 ⟨rfl, hw2⟩
  rw [← hw2] at HS2 Q0 HC
  clear hw2 hfix
  have c0 : w2.cell? ⟨w.heap.size + 1, 0, none⟩ = some (.slice ao ll lc) := HS2.out.rb.cell (i := 0) (by omega)
  have c1 : w2.cell? ⟨w.heap.size + 1, 1, none⟩ = some (.int .u32 (1 : Nat)) := HS2.out.rb.cell (i := 1) (by omega)
  have c2 : w2.cell? ⟨w.heap.size + 1, 2, none⟩ = some (.int .u32 (1 : Nat)) := HS2.out.rb.cell (i := 2) (by omega)
  have d0 : w2.cell? ⟨w.heap.size, 0, none⟩ = some (.slice none 0 0) := Q0.out.cell (i := 0) (by omega)
  have d1 : w2.cell? ⟨w.heap.size, 1, none⟩ = some (.int .u32 (0 : Nat)) := Q0.out.cell (i := 1) (by omega)
  have d2 : w2.cell? ⟨w.heap.size, 2, none⟩ = some (.int .u32 (0 : Nat)) := Q0.out.cell (i := 2) (by omega)
  have e0 := Q0.out.frozen 0
  have e1 := Q0.out.frozen 1
  have e2 := Q0.out.frozen 2
  go_wp2_with fail
  have hc3 : Chg (fun x => x = w.heap.size) w2 (((w2.setCell ⟨w.heap.size, 0, none⟩ (.slice ao ll lc)).setCell ⟨w.heap.size, 1, none⟩ (.int .u32 1)).setCell ⟨w.heap.size, 2, none⟩ (.int .u32 1)) :=
    (((Chg.refl (fun x => x = w.heap.size) w2).setCell (p := ⟨w.heap.size, 0, none⟩) (fun _ => rfl) _).setCell (p := ⟨w.heap.size, 1, none⟩) (fun _ => rfl) _).setCell (p := ⟨w.heap.size, 2, none⟩) (fun _ => rfl) _
  refine bodyPost_ret (v := .agg #[.slice ao ll lc, .int .u32 (1 : Nat), .int .u32 (1 : Nat)]) ?_ rfl ⟨.slice ao ll lc, ll, cb, nd, rfl, HS2.out.keep hc3 (fun x hx => by rw [hx]; exact hfar), by omega, hz, (HC.out.andThen hc3 (fun x hx _ => by omega)).clean (fun x hx => hx)⟩
  rw [results_cell1 rfl]
  go_simp
end Go.Proofs.Ybulkcqyu
