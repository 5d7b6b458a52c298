/-
  clockStore.setFrom (12), walked: up to what setNode does.
-/
import Derived.Test.YbulkcqyuCGrow
namespace Go.Proofs.Ybulkcqyu
set_option linter.unusedVariables false
set_option linter.unusedSimpArgs false
open Go.RowKit Go.Deep

/-- what a clock reads on chain x -/
def view (nd : Nat → Nat → Nat) (h n x : Nat) : Nat := if x < 4 ^ (h + 1) then rd nd h n x else 0
theorem dig_zero (x h : Nat) (hx : x < 4 ^ (h + 1 + 1)) : dig x (h + 1) = 0 ↔ x < 4 ^ (h + 1) := by
  unfold dig
  have hp : 0 < 4 ^ (h + 1) := Nat.pow_pos (by omega)
  have h1 : x / 4 ^ (h + 1) < 4 := by rw [Nat.div_lt_iff_lt_mul hp, Nat.mul_comm, ← Nat.pow_succ]; exact hx
  rw [Nat.mod_eq_of_lt h1, Nat.div_eq_zero_iff_lt hp]
theorem GrowP.view {nd nd' : Nat → Nat → Nat} {N fx N' : Nat} {pos pos' : Nat → Nat × Nat} {h n r : Nat} (g : GrowP nd N fx pos nd' N' pos' h n r) (x : Nat) : view nd' (h + 1) r x = view nd h n x := by
  unfold Ybulkcqyu.view
  have hle : 4 ^ (h + 1) ≤ 4 ^ (h + 1 + 1) := Nat.pow_le_pow_right (by omega) (by omega)
  by_cases h1 : x < 4 ^ (h + 1 + 1)
  · rw [if_pos h1, g.read x]
    by_cases h2 : x < 4 ^ (h + 1)
    · rw [if_pos h2, if_pos ((dig_zero x h h1).2 h2)]
    · rw [if_neg h2, if_neg (fun e => h2 ((dig_zero x h h1).1 e))]
  · rw [if_neg h1, if_neg (by omega)]

/-- what a set leaves: the clock reads f -/
def OutPost (w w' : World) (base b N fx : Nat) (nd : Nat → Nat → Nat) (Fp : Nat → Prop) (h r : Nat) (f : Nat → Nat) : Prop :=
  ∃ nd' N' pos' Fp', Str w' base b N' fx nd' Fp' ∧ Step w w' Fp Fp' ∧ N ≤ N' ∧ N' ≤ N + 8 ∧ (∀ i, i < fx → ∀ j, nd' i j = nd i j) ∧ Tree nd' N' fx pos' h 0 r ∧ ∀ x, x < 256 → view nd' h r x = f x

/-- a clock in a variable -/
def pair (n h : Nat) : Nat → Value := fun o => if o = 0 then .int .u32 (n : Int) else .int .i32 (h : Int)
theorem pair_new (w : World) (n h : Nat) : (w.alloc (.cells #[.int .u32 (n : Int), .int .i32 (h : Int)] 55)).rowIs w.heap.size 55 2 (pair n h) := by
  refine ⟨_, blk_alloc_new _ _, rfl, fun i hi => ?_⟩
  rcases i with _ | _ | i
  · rfl
  · rfl
  · omega
theorem pair_set {w : World} {k n h : Nat} (r : w.rowIs k 55 2 (pair n h)) (n' h' : Nat) : ((w.setCell ⟨k, 0, none⟩ (.int .u32 (n' : Int))).setCell ⟨k, 1, none⟩ (.int .i32 (h' : Int))).rowIs k 55 2 (pair n' h') := by
  refine ((r.set 0 _).set 1 _).congr (fun o ho => ?_)
  unfold pair
  rcases o with _ | _ | o
  · rfl
  · rfl
  · omega

/-- what a function's body has done so far: it has written in the footprint and in its own variables -/
structure LS (lo : Nat) (W wr : World) (Fp Fp' : Nat → Prop) : Prop where
  chg : Chg (fun x => Fp x ∨ lo ≤ x) W wr
  foot : ∀ x, Fp' x → Fp x ∨ W.heap.size ≤ x
theorem LS.refl (lo : Nat) (W : World) (Fp : Nat → Prop) : LS lo W W Fp Fp := ⟨Chg.refl _ _, fun _ h => .inl h⟩
theorem LS.step {lo : Nat} {W wr w2 : World} {Fp Fp' Fp2 : Nat → Prop} (h : LS lo W wr Fp Fp') (k : Step wr w2 Fp' Fp2) : LS lo W w2 Fp Fp2 :=
  ⟨h.chg.andThen k.1 (fun x hx hlt => by rcases h.foot x hx with h1 | h1; exact .inl h1; omega), fun x hx => by
    rcases k.2 x hx with h1 | h1
    · exact h.foot x h1
    · exact .inr (Nat.le_trans h.chg.size h1)⟩
theorem LS.own {lo : Nat} {W wr w2 : World} {Fp Fp' S : Nat → Prop} (h : LS lo W wr Fp Fp') (k : Chg S wr w2) (hS : ∀ x, S x → lo ≤ x) : LS lo W w2 Fp Fp' :=
  ⟨h.chg.andThen k (fun x hx hlt => .inr (hS x hx)), h.foot⟩
theorem LS.far {lo : Nat} {W wr : World} {Fp Fp' : Nat → Prop} (h : LS lo W wr Fp Fp') (hb : ∀ x, Fp x → x < lo) {k : Nat} (hk : lo ≤ k) (hk1 : k < W.heap.size) : ¬ Fp' k := fun hf => by
  rcases h.foot k hf with h1 | h1
  · have := hb k h1; omega
  · omega
theorem LS.out {lo : Nat} {w W w' : World} {Fp Fp' : Nat → Prop} (h : LS lo W w' Fp Fp') (hc : Chg (fun _ => False) w W) (hlo : lo = w.heap.size) : Step w w' Fp Fp' :=
  ⟨(hc.mono (fun _ x => x.elim)).andThen h.chg (fun x hx hlt => by rcases hx with h1 | h1; exact h1; omega), fun x hx => by
    rcases h.foot x hx with h1 | h1
    · exact .inl h1
    · exact .inr (Nat.le_trans hc.size h1)⟩

set_option maxHeartbeats 400000 in
theorem setFrom_walk {base b fx h rf hf c : Nat} {pl : Int} (place : Nat) (hpl : pl % 4294967296 = (place : Int)) (hh : h ≤ 3) (hhf : hf ≤ 3) (hc : c ≤ 255) (hfx : 0 < fx) (w : World) (N : Nat) (nd : Nat → Nat → Nat) (pos : Nat → Nat × Nat) (Fp : Nat → Prop) (n : Nat) (f : Nat → Nat)
    (H : Hid (Str w base b N fx nd Fp)) (z : Zero nd) (hfN : fx ≤ N) (hN : N < 300000) (t : Tree nd N fx pos h 0 n)
    (hset : Hid (∀ (W : World) (nd' : Nat → Nat → Nat) (N' : Nat) (pos' : Nat → Nat × Nat) (Fp' : Nat → Prop) (n' h' : Nat), Str W base b N' fx nd' Fp' → Zero nd' → N ≤ N' → N' ≤ N + 3 → (∀ i, i < fx → ∀ j, nd' i j = nd i j) → Tree nd' N' fx pos' h' 0 n' → (∀ x, view nd' h' n' x = view nd h n x) → c < 4 ^ (h' + 1) → h' ≤ 3 → (c < 4 ^ (h + 1) → h' = h ∧ n' = n) →
      Calls Yba.prog 20 #[.pointer (some ⟨b, 0, none⟩), .int .u32 n', .agg #[.int .u32 rf, .int .i32 hf], .int .i32 h', .int .i32 c, .int .u32 place] W fun e w' => ∃ r : Nat, e = .returned (.int .u32 r) ∧ ∃ nd2 N2 pos2 Fp2, Str w' base b N2 fx nd2 Fp2 ∧ Step W w' Fp' Fp2 ∧ N ≤ N2 ∧ N2 ≤ N + 8 ∧ (∀ i, i < fx → ∀ j, nd2 i j = nd i j) ∧ Tree nd2 N2 fx pos2 h' 0 r ∧ ∀ x, x < 256 → view nd2 h' r x = f x)) :
    Calls Yba.prog 12 #[.pointer (some ⟨b, 0, none⟩), .agg #[.int .u32 n, .int .i32 h], .agg #[.int .u32 rf, .int .i32 hf], .int .i32 c, .int .i32 pl] w fun e w' => ∃ r h' : Nat, e = .returned (.agg #[.int .u32 r, .int .i32 h']) ∧ h' ≤ 3 ∧ (c < 4 ^ (h + 1) → h' = h) ∧ OutPost w w' base b N fx nd Fp h' r f := by
  obtain ⟨W, hW⟩ : ∃ W, W = ((w.alloc (.cells #[.int .u32 n, .int .i32 h] 55)).alloc (.cells #[.int .u32 rf, .int .i32 hf] 55)).alloc (.cells #[.int .u32 0, .int .i32 0] 55) := ⟨_, rfl⟩
  have HW : Hid (W = ((w.alloc (.cells #[.int .u32 n, .int .i32 h] 55)).alloc (.cells #[.int .u32 rf, .int .i32 hf] 55)).alloc (.cells #[.int .u32 0, .int .i32 0] 55)) := hW
  have hcW : Hid (Chg (fun _ => False) w W) := by rw [hW]; exact (((Chg.refl _ _).alloc _).alloc _).alloc _
  have szW : W.heap.size = w.heap.size + 3 := by rw [hW]; simp
  have r0 : Hid (W.rowIs w.heap.size 55 2 (pair n h)) := by
    rw [hW]; exact ((((Chg.refl (fun _ => False) _).alloc _).alloc _)).row (pair_new w n h) (fun x => x)
  have r1 : Hid (W.rowIs (w.heap.size + 1) 55 2 (pair rf hf)) := by
    have := pair_new (w.alloc (.cells #[.int .u32 n, .int .i32 h] 55)) rf hf
    rw [show (w.alloc (.cells #[.int .u32 n, .int .i32 h] 55)).heap.size = w.heap.size + 1 by simp] at this
    rw [hW]; exact ((Chg.refl (fun _ => False) _).alloc _).row this (fun x => x)
  have r2 : Hid (W.rowIs (w.heap.size + 2) 55 2 (pair 0 0)) := by
    have := pair_new ((w.alloc (.cells #[.int .u32 n, .int .i32 h] 55)).alloc (.cells #[.int .u32 rf, .int .i32 hf] 55)) 0 0
    rw [show ((w.alloc (.cells #[.int .u32 n, .int .i32 h] 55)).alloc (.cells #[.int .u32 rf, .int .i32 hf] 55)).heap.size = w.heap.size + 2 by simp] at this
    rw [hW]; exact this
  clear hW
  have hwlt : Hid (∀ x, Fp x → x < w.heap.size) := fun x hx => H.out.lt hx
  go_enter Yba.func12, Yba.ntmps12
  go_wp2_with fail
  rw [← HW.out]
  go_loopw [] (fun wr => ∃ n' h' : Nat, h' ≤ 3 ∧ (c < 4 ^ (h + 1) → h' = h ∧ n' = n) ∧ Hid (wr.rowIs w.heap.size 55 2 (pair n' h')) ∧ Hid (wr.rowIs (w.heap.size + 1) 55 2 (pair rf hf)) ∧ Hid (wr.rowIs (w.heap.size + 2) 55 2 (pair 0 0)) ∧ 
    Hid (∃ nd' N' pos' Fp', Str wr base b N' fx nd' Fp' ∧ LS w.heap.size W wr Fp Fp' ∧ Zero nd' ∧ N ≤ N' ∧ N' ≤ N + (h' - h) ∧ h ≤ h' ∧ (∀ i, i < fx → ∀ j, nd' i j = nd i j) ∧ Tree nd' N' fx pos' h' 0 n' ∧ ∀ x, view nd' h' n' x = view nd h n x)) (fun wr => match wr.cell? ⟨w.heap.size, 1, none⟩ with | some v => 4 - (intOf v).toNat | none => 0)
  case atStart => exact ⟨n, h, hh, fun _ => ⟨rfl, rfl⟩, r0, r1, r2, nd, N, pos, Fp, H.out.grow hcW.out, LS.refl _ _ _, z, Nat.le_refl _, by omega, Nat.le_refl _, fun _ _ _ => rfl, t, fun _ => rfl⟩
  case round =>
    obtain ⟨n', h', hh', hstay, q0, q1, q2, HI⟩ := hrel
    have hholds := (show Hid _ from holds_any n' h' c wr (by omega) hc)
    have e0 : wr.cell? ⟨w.heap.size, 0, none⟩ = some (.int .u32 n') := q0.out.cell (i := 0) (by omega)
    have e1 : wr.cell? ⟨w.heap.size, 1, none⟩ = some (.int .i32 h') := q0.out.cell (i := 1) (by omega)
    go_wp2_with fail
    refine Calls.mono hholds.out ?_
    rintro e w1 ⟨rfl, hw1⟩
    have hk : Chg (fun _ => False) wr w1 := by rw [hw1]; exact (Chg.refl _ _).alloc _
    clear hw1
    have HI1 : Hid (∃ nd' N' pos' Fp', Str w1 base b N' fx nd' Fp' ∧ LS w.heap.size W w1 Fp Fp' ∧ Zero nd' ∧ N ≤ N' ∧ N' ≤ N + (h' - h) ∧ h ≤ h' ∧ (∀ i, i < fx → ∀ j, nd' i j = nd i j) ∧ Tree nd' N' fx pos' h' 0 n' ∧ ∀ x, view nd' h' n' x = view nd h n x) := by
      obtain ⟨nd', N', pos', Fp', a1, a2, a3⟩ := HI.out
      exact ⟨nd', N', pos', Fp', a1.grow hk, a2.own hk (fun _ x => x.elim), a3⟩
    have p0 : Hid (w1.rowIs w.heap.size 55 2 (pair n' h')) := hk.row q0.out (fun x => x)
    have p1 : Hid (w1.rowIs (w.heap.size + 1) 55 2 (pair rf hf)) := hk.row q1.out (fun x => x)
    have p2 : Hid (w1.rowIs (w.heap.size + 2) 55 2 (pair 0 0)) := hk.row q2.out (fun x => x)
    have hmu0 : (match wr.cell? ⟨w.heap.size, 1, none⟩ with | some v => 4 - (intOf v).toNat | none => 0) = 4 - h' := by rw [e1]; simp [intOf]
    have hmu := (show Hid _ from hmu0)
    clear hmu0
    clear q0 q1 q2 HI hk e0 e1
    have e0 : w1.cell? ⟨w.heap.size, 0, none⟩ = some (.int .u32 n') := p0.out.cell (i := 0) (by omega)
    have e1 : w1.cell? ⟨w.heap.size, 1, none⟩ = some (.int .i32 h') := p0.out.cell (i := 1) (by omega)
    by_cases h2 : c < 4 ^ (h' + 1)
    · have hd2 : decide (c < 4 ^ (h' + 1)) = true := by simp; omega
      have e2 : w1.cell? ⟨w.heap.size + 1, 0, none⟩ = some (.int .u32 rf) := p1.out.cell (i := 0) (by omega)
      have e3 : w1.cell? ⟨w.heap.size + 1, 1, none⟩ = some (.int .i32 hf) := p1.out.cell (i := 1) (by omega)
      have hpw : IntKind.u32.wrap pl = (place : Int) := by rw [IntKind.wrap_u32']; exact hpl
      obtain ⟨nd', N', pos', Fp', a1, a2, a3, a4, a5, a6, a7, a8, a9⟩ := HI1.out
      have hpost := (show Hid _ from hset.out w1.drew nd' N' pos' Fp' n' h' a1.drew a3 a4 (by omega) a7 a8 a9 h2 hh' hstay)
      clear a3 a4 a5 a6 a7 a8 a9
      have hne1 : w.heap.size + 1 + 1 ≠ w.heap.size := by omega
      go_wp2_with fail
      go_region_held3 (fun w' => w'.cell? ⟨w.heap.size, 0, none⟩ = some (.int .u32 n') ∧ w'.cell? ⟨w.heap.size, 1, none⟩ = some (.int .i32 h') ∧ w'.cell? ⟨w.heap.size + 1, 0, none⟩ = some (.int .u32 rf) ∧ w'.cell? ⟨w.heap.size + 1, 1, none⟩ = some (.int .i32 hf)) (go_keep) ((go_at_call 20; refine Calls.mono hpost.out ?_; rintro e w' ⟨r, rfl, hout⟩; have HO : Hid _ := hout; obtain ⟨nd2, N2, pos2, Fp2, _, hstep, _⟩ := hout; have hfar : ∀ k, w.heap.size ≤ k → k < W.heap.size → ¬ Fp' k := fun k hk hk1 => a2.far hwlt.out hk hk1; have s0 := hstep.1.row (show w1.drew.rowIs w.heap.size 55 2 (pair n' h') from p0.out) (hfar _ (by omega) (by omega)); have s1 := hstep.1.row (show w1.drew.rowIs (w.heap.size + 1) 55 2 (pair rf hf) from p1.out) (hfar _ (by omega) (by omega)); have s2 := hstep.1.row (show w1.drew.rowIs (w.heap.size + 1 + 1) 55 2 (pair 0 0) from p2.out) (hfar _ (by omega) (by omega)); have S2 : Hid _ := s2; have g0 : w'.cell? ⟨w.heap.size, 0, none⟩ = some (.int .u32 n') := s0.cell (i := 0) (by omega); have g1 : w'.cell? ⟨w.heap.size, 1, none⟩ = some (.int .i32 h') := s0.cell (i := 1) (by omega); have g2 : w'.cell? ⟨w.heap.size + 1, 0, none⟩ = some (.int .u32 rf) := s1.cell (i := 0) (by omega); have g3 : w'.cell? ⟨w.heap.size + 1, 1, none⟩ = some (.int .i32 hf) := s1.cell (i := 1) (by omega); have g4 : w'.cell? ⟨w.heap.size + 1 + 1, 0, none⟩ = some (.int .u32 (0 : Nat)) := s2.cell (i := 0) (by omega); have g5 : w'.cell? ⟨w.heap.size + 1 + 1, 1, none⟩ = some (.int .i32 (0 : Nat)) := s2.cell (i := 1) (by omega); have f4 := s2.frozen 0; have f5 := s2.frozen 1; clear s0 s1 s2 hstep hfar))
      go_wp2_with fail
      refine bodyPost_ret (v := .agg #[.int .u32 r, .int .i32 h']) ?_ rfl ⟨r, h', rfl, hh', fun hcc => (hstay hcc).1, ?_⟩
      · rw [results_cell1 rfl]
        go_simp
      · obtain ⟨nd2, N2, pos2, Fp2, o1, o2, o3⟩ := HO.out
        have l1 := (a2.own (S := fun _ => False) ((Chg.refl _ _).drew) (fun _ x => x.elim)).step o2
        have l2 := l1.own (chg_pair w' (w.heap.size + 1 + 1) (.int .u32 r) (.int .i32 h')) (fun x hx => by omega)
        exact ⟨nd2, N2, pos2, Fp2, o1.keep (chg_pair w' (w.heap.size + 1 + 1) (.int .u32 r) (.int .i32 h')) (fun x hx => by rw [hx]; exact l1.far hwlt.out (by omega) (by omega)), l2.out hcW.out rfl, o3⟩
    · have hd2 : decide (c < 4 ^ (h' + 1)) = false := by simp; omega
      have hh3 : h' < 3 := by
        apply Classical.byContradiction; intro hx
        have e : h' = 3 := by omega
        rw [e] at h2; simp at h2; omega
      obtain ⟨nd', N', pos', Fp', a1, a2, a3, a4, a5, a6, a7, a8, a9⟩ := HI1.out
      have hgr := (show Hid _ from grown_any (by omega) hfx w1 N' nd' pos' Fp' n' a1 a3 (by omega) (by omega) a8)
      have HA : Hid (LS w.heap.size W w1 Fp Fp' ∧ Zero nd' ∧ N ≤ N' ∧ N' ≤ N + (h' - h) ∧ h ≤ h' ∧ (∀ i, i < fx → ∀ j, nd' i j = nd i j) ∧ Tree nd' N' fx pos' h' 0 n' ∧ ∀ x, view nd' h' n' x = view nd h n x) := ⟨a2, a3, a4, a5, a6, a7, a8, a9⟩
      clear a2 a3 a4 a5 a6 a7 a8 a9 HI1
      go_wp2_with fail
      refine Calls.mono hgr.out ?_
      rintro e w' ⟨m, rfl, hout⟩
      have HO : Hid (GrowPost w1 w' base b N' fx nd' Fp' pos' h' n' m) := hout
      obtain ⟨nd2, N2, pos2, Fp2, _, hstep, _⟩ := hout
      have hfar : ∀ k, w.heap.size ≤ k → k < W.heap.size → ¬ Fp' k := fun k hk hk1 => HA.out.1.far hwlt.out hk hk1
      have s0 := hstep.1.row p0.out (hfar _ (by omega) (by omega))
      have S0 := (show Hid _ from s0)
      have S1 := (show Hid _ from hstep.1.row p1.out (hfar _ (by omega) (by omega)))
      have S2 := (show Hid _ from hstep.1.row p2.out (hfar _ (by omega) (by omega)))
      have g0 : w'.cell? ⟨w.heap.size, 0, none⟩ = some (.int .u32 n') := s0.cell (i := 0) (by omega)
      have g1 : w'.cell? ⟨w.heap.size, 1, none⟩ = some (.int .i32 h') := s0.cell (i := 1) (by omega)
      have f0 := s0.frozen 0
      have f1 := s0.frozen 1
      clear s0 hstep hfar
      go_wp2_with fail
      have hcp := chg_pair w' w.heap.size (.int .u32 m) (.int .i32 ((h' : Int) + 1))
      have hpp := pair_set S0.out m (h' + 1)
      rw [show ((h' + 1 : Nat) : Int) = (h' : Int) + 1 by omega] at hpp
      refine ⟨⟨m, h' + 1, by omega, fun hcc => absurd hcc ?_, hpp, hcp.row S1.out (by omega), hcp.row S2.out (by omega), ?_⟩, ?_⟩
      · intro hcc
        rw [(hstay hcc).1] at h2; exact h2 hcc
      · obtain ⟨nd2, N2, pos2, Fp2, o1, o2, o3⟩ := HO.out
        obtain ⟨a2, a3, a4, a5, a6, a7, a8, a9⟩ := HA.out
        have l1 := a2.step o2
        have l2 := l1.own hcp (fun x hx => by omega)
        have o4 := o3.le
        have o5 := o3.le1
        exact ⟨nd2, N2, pos2, Fp2, o1.keep hcp (fun x hx => by rw [hx]; exact l1.far hwlt.out (by omega) (by omega)), l2, fun j => by rw [o3.same 0 (by omega)]; exact a3 j, by omega, by omega, by omega, fun i hi j => by rw [o3.same i (by omega)]; exact a7 i hi j, o3.tree, fun x => by rw [o3.view x]; exact a9 x⟩
      · rw [hmu.out]
        have hc1 := hpp.cell (i := 1) (by omega)
        rw [hc1]
        simp [pair, intOf]
        omega
end Go.Proofs.Ybulkcqyu
