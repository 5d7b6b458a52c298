/-
  newSimulator (6), walked: seven makes in one region that draws its order.
-/
import Derived.Test.YbulkcqyuMakes
import Derived.Test.YbulkcqyuBSim
namespace Go.Proofs.Ybulkcqyu
set_option linter.unusedVariables false
set_option linter.unusedSimpArgs false
open Go.RowKit Go.Deep

theorem wpAnyH_cast {P : Program} {ops : Array Oper} {Q : Exit → Act → World → Prop} {md : Region.Mode} {S : World → Prop} {fuel fuel' : Nat} {listed listed' : Array Bool} {a a' : Act} {w : World} (h1 : fuel' = fuel) (h2 : listed' = listed) (h3 : a' = a)
    (h : wpAnyH P md ops Q S fuel listed a w) : wpAnyH P md ops Q S fuel' listed' a' w := by
  subst h1; subst h2; subst h3; exact h

theorem exec_make {P : Program} {a : Act} {o : Oper} (t : TypeId) (x : Nat) (v val : Value) (f : World → World) (ho : o.op = .makeSlice t (.tmp x) (.tmp x)) (hv : a.eval (.tmp x) = v) (w : World) (hrun : (Instr.makeSlice t v v).run P w = .ok val (f w)) :
    (execOp a.eval o).run P w = .ok (.value val) (f w) := by
  unfold execOp
  simp [ho, hv, hrun, Result.andThen]

/-- the operations that have come up in newSimulator's second region, the seven makes by themselves -/
def Lb (b8 b10 b17 b24 b29 b34 b37 : Bool) : Array Bool := #[true, true, true, true, true, true, true, true, b8, true, b10, true, true, true, true, true, true, b17, true, true, true, true, true, true, b24, true, true, true, true, b29, true, true, true, true, b34, true, true, b37, false, false, false]
def Ld (d : Nat → Bool) : Array Bool := Lb (d 8) (d 10) (d 17) (d 24) (d 29) (d 34) (d 37)
/-- .. and the frame -/
def Fr (b0 m k : Nat) (s : Nat → Value) : Act := { tmps := #[.pointer (some ⟨b0, 0, none⟩), undef, .pointer none, .int .i64 k, .int .i64 k, undef, undef, .tuple #[.int .i64 k, .int .i64 k], .pointer (some ⟨b0, 0, none⟩), .tuple #[.int .i64 k, .int .i64 k], .int .i64 k, .int .i64 k, .pointer (some ⟨b0, 0, none⟩), .pointer (some ⟨b0, 0, none⟩), .pointer (some ⟨b0, 0, none⟩), .pointer (some ⟨b0, 2, none⟩), .int .u64 0, .int .i64 k, .int .i64 k, .int .i64 k, s 8, .int .i64 k, s 10, .int .i64 k, .pointer (some ⟨b0, 0, none⟩), .pointer (some ⟨b0, 0, none⟩), .pointer (some ⟨b0, 0, none⟩), .int .i64 m, .int .i64 (k * m), s 17, .int .i64 k, .pointer (some ⟨b0, 0, none⟩), .pointer (some ⟨b0, 0, none⟩), .pointer (some ⟨b0, 0, none⟩), .int .i64 m, .int .i64 (k * m), s 24, .pointer (some ⟨b0, 0, none⟩), .pointer (some ⟨b0, 0, none⟩), .pointer (some ⟨b0, 0, none⟩), .int .i64 m, s 29, .pointer (some ⟨b0, 0, none⟩), .pointer (some ⟨b0, 0, none⟩), .pointer (some ⟨b0, 0, none⟩), .int .i64 m, s 34, .int .i64 k, .int .i64 (k + 1), s 37, undef, undef, undef, undef, undef, undef, undef, undef, undef, undef, undef, undef, undef, undef, undef, undef, undef, undef], defers := [] }
def Ms : List Nat := [8, 10, 17, 24, 29, 34, 37]

theorem Ld_set (d : Nat → Bool) (i : Nat) (hi : i ∈ Ms) : (Ld d).setIfInBounds i true = Ld (upd d i true) := by
  simp only [Ms, List.mem_cons, List.not_mem_nil, or_false] at hi
  rcases hi with rfl | rfl | rfl | rfl | rfl | rfl | rfl <;> rfl
theorem Ld_all (d : Nat → Bool) (h : ∀ i, i ∈ Ms → d i = true) : Ld d = Ld (fun _ => true) := by
  unfold Ld
  rw [h 8 (by decide), h 10 (by decide), h 17 (by decide), h 24 (by decide), h 29 (by decide), h 34 (by decide), h 37 (by decide)]

/-- what may come up next, for whatever of the seven are done -/
def Chk (ops : Array Oper) (b8 b10 b17 b24 b29 b34 b37 : Bool) : Bool :=
  (b8 && b10 && b17 && b24 && b29 && b34 && b37) || (!(Region.ready .any ops (Lb b8 b10 b17 b24 b29 b34 b37)).isEmpty && (Region.ready .any ops (Lb b8 b10 b17 b24 b29 b34 b37)).all (fun i => (i == 8 && !b8) || (i == 10 && !b10) || (i == 17 && !b17) || (i == 24 && !b24) || (i == 29 && !b29) || (i == 34 && !b34) || (i == 37 && !b37)))
def ChkAll (ops : Array Oper) : Bool := allB fun b8 => allB fun b10 => allB fun b17 => allB fun b24 => allB fun b29 => allB fun b34 => allB fun b37 => Chk ops b8 b10 b17 b24 b29 b34 b37
theorem ready_of_chk {ops : Array Oper} (h : ChkAll ops = true) (d : Nat → Bool) (hex : ∃ i, i ∈ Ms ∧ d i = false) : Region.ready .any ops (Ld d) ≠ [] ∧ ∀ i ∈ Region.ready .any ops (Ld d), i ∈ Ms ∧ d i = false := by
  have h' := allB_spec (allB_spec (allB_spec (allB_spec (allB_spec (allB_spec (allB_spec (h) (d 8)) (d 10)) (d 17)) (d 24)) (d 29)) (d 34)) (d 37)
  unfold Chk at h'
  change (_ || (!(Region.ready .any ops (Ld d)).isEmpty && (Region.ready .any ops (Ld d)).all _)) = true at h'
  rw [Bool.or_eq_true] at h'
  rcases h' with h' | h'
  · exfalso
    obtain ⟨i, hi, hd⟩ := hex
    simp only [Bool.and_eq_true] at h'
    simp only [Ms, List.mem_cons, List.not_mem_nil, or_false] at hi
    rcases hi with rfl | rfl | rfl | rfl | rfl | rfl | rfl <;> simp_all
  · rw [Bool.and_eq_true] at h'
    obtain ⟨h1, h2⟩ := h'
    refine ⟨fun e => by rw [e] at h1; simp at h1, fun i hi => ?_⟩
    have := List.all_eq_true.1 h2 i hi
    simp only [Bool.or_eq_true, Bool.and_eq_true, beq_iff_eq, Bool.not_eq_true'] at this
    rcases this with (((((h | h) | h) | h) | h) | h) | h <;> (obtain ⟨rfl, h⟩ := h; exact ⟨by decide, h⟩)

theorem Yba.info33 : (Yba.prog.info? 33).map (fun i => (i.zero, i.size, i.bytes)) = some (some (.slice none 0 0), 1, 24) := by kernel_rfl
theorem Yba.info104 : (Yba.prog.info? 104).map (fun i => (i.zero, i.size, i.bytes)) = some (some (.slice none 0 0), 1, 24) := by kernel_rfl
def Z103 : Value := .agg (Array.replicate 32 (.int .u8 0))
theorem Yba.info103 : (Yba.prog.info? 103).map (fun i => (i.zero, i.size, i.bytes)) = some (some Z103, 32, 32) := by kernel_rfl

/-- the seven rows that are made -/
def Ob (m k : Nat) (i : Nat) : Obj :=
  if i = 8 then .cells (madeCells Z103.cells (k * 32)) 103 else if i = 10 then .cells (madeCells #[.slice none 0 0] k) 33 else if i = 17 then .cells (madeCells #[.int .i64 0] (k * m)) 3 else if i = 24 then .cells (madeCells #[.int .i64 0] (k * m)) 3
  else if i = 29 then .cells (madeCells #[.slice none 0 0] m) 33 else if i = 34 then .cells (madeCells #[.int .i64 0] m) 3 else .cells (madeCells #[.slice none 0 0] (k + 1)) 104
def Sz (m k : Nat) (i : Nat) : Nat := if i = 8 then k else if i = 10 then k else if i = 17 then k * m else if i = 24 then k * m else if i = 29 then m else if i = 34 then m else k + 1

/-- what newSimulator has laid -/
structure Fresh (w W : World) (b0 bs bp bh bhd bl m k : Nat) (hd : Nat → Int) : Prop where
  chg : Chg (fun _ => False) w W
  c0 : W.cell? ⟨bs, 0, none⟩ = some (.pointer (some ⟨b0, 0, none⟩))
  c1 : W.cell? ⟨b0, 0, none⟩ = some (.int .i64 m)
  c2 : W.cell? ⟨bs, 2, none⟩ = some (.int .i64 k)
  c5 : W.cell? ⟨bs, 5, none⟩ = some (.slice (some ⟨bp, 0, none⟩) k k)
  c7 : W.cell? ⟨bs, 7, none⟩ = some (.slice (some ⟨bh, 0, none⟩) (k * m) (k * m))
  c8 : W.cell? ⟨bs, 8, none⟩ = some (.slice (some ⟨bhd, 0, none⟩) m m)
  c9 : W.cell? ⟨bs, 9, none⟩ = some (.slice (some ⟨bl, 0, none⟩) m m)
  rh : W.rowIs bh 3 (k * m) (fun i => .int .i64 (hd i))
  rl : W.rowIs bl 3 m (fun _ => .int .i64 0)
  rhd : W.rowIs bhd 33 m (fun _ => .slice none 0 0)
  rp : W.rowIs bp 33 k (fun _ => .slice none 0 0)
  l0 : b0 < w.heap.size
  ls : w.heap.size ≤ bs
  lp : w.heap.size ≤ bp
  lh : w.heap.size ≤ bh
  lhd : w.heap.size ≤ bhd
  ll : w.heap.size ≤ bl
  bs_lt : bs < W.heap.size
  n1 : bs ≠ bh
  n2 : bs ≠ bl
  n3 : bs ≠ bhd
  n0 : bs ≠ bp
  n7 : bp ≠ bh
  n8 : bp ≠ bl
  n9 : bp ≠ bhd
  n10 : bh ≠ bl
  n11 : bh ≠ bhd
  n12 : bl ≠ bhd

theorem Fresh.set {w W : World} {b0 bs bp bh bhd bl m k : Nat} {hd : Nat → Int} (h : Fresh w W b0 bs bp bh bhd bl m k hd) (i : Nat) (x : Int) : Fresh w (W.setCell ⟨bh, i, none⟩ (.int .i64 x)) b0 bs bp bh bhd bl m k (fun j => if j = i then x else hd j) := by
  have far : ∀ b o v, b ≠ bh → W.cell? ⟨b, o, none⟩ = v → (W.setCell ⟨bh, i, none⟩ (.int .i64 x)).cell? ⟨b, o, none⟩ = v := fun b o v hb e => by rw [World.cell?_setCell_far _ _ _ _ (fun e => hb e.symm)]; exact e
  refine ⟨h.chg.setCell (fun hh => ?_) _, far _ _ _ h.n1 h.c0, far _ _ _ (by have := h.l0; have := h.lh; omega) h.c1, far _ _ _ h.n1 h.c2, far _ _ _ h.n1 h.c5, far _ _ _ h.n1 h.c7, far _ _ _ h.n1 h.c8, far _ _ _ h.n1 h.c9,
    (h.rh.set i _).congr (fun j _ => ?_), h.rl.setOther (by exact h.n10.symm) _, h.rhd.setOther (by exact h.n11.symm) _, h.rp.setOther (by exact h.n7) _, h.l0, h.ls, h.lp, h.lh, h.lhd, h.ll, by rw [nblk_setCell]; exact h.bs_lt, h.n1, h.n2, h.n3, h.n0, h.n7, h.n8, h.n9, h.n10, h.n11, h.n12⟩
  · have := h.lh; dsimp only at hh; omega
  · split <;> rfl
theorem Fresh.congr {w W : World} {b0 bs bp bh bhd bl m k : Nat} {hd hd' : Nat → Int} (h : Fresh w W b0 bs bp bh bhd bl m k hd) (e : ∀ i, i < k * m → hd i = hd' i) : Fresh w W b0 bs bp bh bhd bl m k hd' :=
  ⟨h.chg, h.c0, h.c1, h.c2, h.c5, h.c7, h.c8, h.c9, h.rh.congr (fun i hi => by rw [e i hi]), h.rl, h.rhd, h.rp, h.l0, h.ls, h.lp, h.lh, h.lhd, h.ll, h.bs_lt, h.n1, h.n2, h.n3, h.n0, h.n7, h.n8, h.n9, h.n10, h.n11, h.n12⟩

/-- the struct's cells -/
def SimCells (b0 m k : Nat) (blk : Nat → Nat) : Array Value :=
  #[.pointer (some ⟨b0, 0, none⟩), .int .u64 0, .int .i64 k, .int .i64 k, .slice (some ⟨blk 8, 0, none⟩) k k, .slice (some ⟨blk 10, 0, none⟩) k k, .slice (some ⟨blk 17, 0, none⟩) (k * m) (k * m), .slice (some ⟨blk 24, 0, none⟩) (k * m) (k * m), .slice (some ⟨blk 29, 0, none⟩) m m, .slice (some ⟨blk 34, 0, none⟩) m m, .slice (some ⟨blk 37, 0, none⟩) (k + 1) (k + 1), .slice none 0 0, .slice none 0 0]

theorem rowIs_ofMade {W : World} {b : Nat} {z : Value} {n : Nat} {t : TypeId} (h : W.heap[b]? = some (.cells (madeCells #[z] n) t)) : W.rowIs b t n (fun _ => z) :=
  ⟨_, h, size_madeCells _ _, fun i hi => by simp [madeCells, hi, Nat.mod_one]⟩

theorem fresh_start {w W : World} {b0 m k q : Nat} {s : Nat → Value} {blk : Nat → Nat} (hM : Made (w.drewN q) W Ms (fun _ => true) s blk (Ob m k) (Sz m k)) (c0 : w.cell? ⟨b0, 0, none⟩ = some (.int .i64 m)) :
    Fresh w (W.alloc (.cells (SimCells b0 m k blk) 37)) b0 W.heap.size (blk 10) (blk 24) (blk 29) (blk 34) m k (fun _ => 0) := by
  have lb := World.block_lt_of_cell? w _ c0
  have hlt : ∀ i, i ∈ Ms → w.heap.size ≤ blk i ∧ blk i < W.heap.size := fun i hi => ⟨(hM.val i hi rfl).2.1, (Array.getElem?_eq_some_iff.1 (hM.val i hi rfl).2.2).1⟩
  have hc : Chg (fun _ => False) w W := (((Chg.refl (fun _ => False) w).drewN q).trans hM.chg)
  have hsz := hc.size
  have e10 := hlt 10 (by decide)
  have e24 := hlt 24 (by decide)
  have e29 := hlt 29 (by decide)
  have e34 := hlt 34 (by decide)
  have hb : (W.alloc (.cells (SimCells b0 m k blk) 37)).heap[W.heap.size]? = some (.cells (SimCells b0 m k blk) 37) := blk_alloc_new _ _
  have cell : ∀ o, (W.alloc (.cells (SimCells b0 m k blk) 37)).cell? ⟨W.heap.size, o, none⟩ = (SimCells b0 m k blk)[o]? := fun o => cell_of_row _ _ o _ 37 (0, 0) hb
  have r10 : W.rowIs (blk 10) 33 k (fun _ => .slice none 0 0) := rowIs_ofMade (hM.val 10 (by decide) rfl).2.2
  have r24 : W.rowIs (blk 24) 3 (k * m) (fun _ => .int .i64 0) := rowIs_ofMade (hM.val 24 (by decide) rfl).2.2
  have r29 : W.rowIs (blk 29) 33 m (fun _ => .slice none 0 0) := rowIs_ofMade (hM.val 29 (by decide) rfl).2.2
  have r34 : W.rowIs (blk 34) 3 m (fun _ => .int .i64 0) := rowIs_ofMade (hM.val 34 (by decide) rfl).2.2
  have ap := fun i i' hi hi' ne => hM.apart i i' hi hi' rfl rfl ne
  exact ⟨hc.alloc _, cell 0, by rw [(hc.alloc _).cell (by exact lb) (fun h => h)]; exact c0, cell 2, cell 5, cell 7, cell 8, cell 9, r24.alloc _, r34.alloc _, r29.alloc _, r10.alloc _, lb, hsz, e10.1, e24.1, e29.1, e34.1, by rw [nblk_alloc]; omega,
    by omega, by omega, by omega, by omega, ap 10 24 (by decide) (by decide) (by decide), ap 10 34 (by decide) (by decide) (by decide), ap 10 29 (by decide) (by decide) (by decide), ap 24 34 (by decide) (by decide) (by decide), ap 24 29 (by decide) (by decide) (by decide), ap 34 29 (by decide) (by decide) (by decide)⟩

set_option maxHeartbeats 1000000 in
theorem newSim_any (b0 m k : Nat) (w : World) (hk0 : 1 ≤ k) (hk : k ≤ 300) (hm0 : 1 ≤ m) (hm : m ≤ 16)
    (c0 : w.cell? ⟨b0, 0, none⟩ = some (.int .i64 m)) (c1 : w.cell? ⟨b0, 1, none⟩ = some (.int .i64 k)) (c2 : w.cell? ⟨b0, 2, none⟩ = some (.int .u64 0)) (c3 : w.cell? ⟨b0, 3, none⟩ = some (.int .i64 k)) :
    Calls Yba.prog 6 #[.pointer (some ⟨b0, 0, none⟩)] w fun e w' => ∃ bs bp bh bhd bl, e = .returned (.pointer (some ⟨bs, 0, none⟩)) ∧ Fresh w w' b0 bs bp bh bhd bl m k (fun _ => -1) := by
  have hkm : k * m ≤ 4800 := by have := Nat.mul_le_mul hk hm; omega
  have hkm' : (k : Int) * (m : Int) ≤ 4800 := by have := Int.ofNat_le.2 hkm; simpa using this
  have hkp : 0 ≤ (k : Int) * (m : Int) := Int.mul_nonneg (by omega) (by omega)
  have w1 : IntKind.i64.wrap ((k : Int) * (m : Int)) = (k : Int) * (m : Int) := IntWalk.i64_in _ (by omega)
  have w2 : IntKind.i64.wrap ((k : Int) + 1) = (k : Int) + 1 := IntWalk.i64_in _ (by omega)
  have lb0 := World.block_lt_of_cell? w _ c0
  go_enter Yba.func6, Yba.ntmps6
  go_wp2_with fail
  refine (window_any b0 k (by omega) (by omega) w c1 c3).mono ?_
  rintro e w' ⟨rfl, q, rfl⟩
  go_wp2_with fail
  refine wp_region_held_drew (S := fun w' => w'.cell? ⟨b0, 0, none⟩ = some (.int .i64 m) ∧ w'.cell? ⟨b0, 2, none⟩ = some (.int .u64 0)) (by kernel_rfl) ⟨c0, c2⟩ (fun hH => ?_)
  refine wpAnyH_take (i := 0) (v := .pointer (some ⟨b0, 0, none⟩)) rfl (by kernel_rfl) (by kernel_rfl) (by kernel_rfl) (fun _ _ _ h => h) (Or.inl ⟨by rfl, ?_⟩) hH ?_
  · intro w hSw; (try dsimp only at hSw); go_simp
  simp only [Act.put, List.setIfInBounds_toArray, List.set_cons_zero, List.set_cons_succ]
  refine wpAnyH_take (i := 1) (v := .pointer (some ⟨b0, 0, none⟩)) rfl (by kernel_rfl) (by kernel_rfl) (by kernel_rfl) (fun _ _ _ h => h) (Or.inl ⟨by rfl, ?_⟩) hH ?_
  · intro w hSw; (try dsimp only at hSw); go_simp
  simp only [Act.put, List.setIfInBounds_toArray, List.set_cons_zero, List.set_cons_succ]
  refine wpAnyH_take (i := 2) (v := .pointer (some ⟨b0, 0, none⟩)) rfl (by kernel_rfl) (by kernel_rfl) (by kernel_rfl) (fun _ _ _ h => h) (Or.inl ⟨by rfl, ?_⟩) hH ?_
  · intro w hSw; (try dsimp only at hSw); go_simp
  simp only [Act.put, List.setIfInBounds_toArray, List.set_cons_zero, List.set_cons_succ]
  refine wpAnyH_take (i := 3) (v := .pointer (some ⟨b0, 2, none⟩)) rfl (by kernel_rfl) (by kernel_rfl) (by kernel_rfl) (fun _ _ _ h => h) (Or.inl ⟨by rfl, ?_⟩) hH ?_
  · intro w hSw; (try dsimp only at hSw); go_simp
  simp only [Act.put, List.setIfInBounds_toArray, List.set_cons_zero, List.set_cons_succ]
  refine wpAnyH_take (i := 4) (v := .int .u64 0) rfl (by kernel_rfl) (by kernel_rfl) (by kernel_rfl) (fun _ _ _ h => h) (Or.inl ⟨by rfl, ?_⟩) hH ?_
  · intro w hSw; (try dsimp only at hSw); go_simp
  simp only [Act.put, List.setIfInBounds_toArray, List.set_cons_zero, List.set_cons_succ]
  refine wpAnyH_take (i := 5) (v := .int .i64 k) rfl (by kernel_rfl) (by kernel_rfl) (by kernel_rfl) (fun _ _ _ h => h) (Or.inl ⟨by rfl, ?_⟩) hH ?_
  · intro w hSw; (try dsimp only at hSw); go_simp
  simp only [Act.put, List.setIfInBounds_toArray, List.set_cons_zero, List.set_cons_succ]
  refine wpAnyH_take (i := 6) (v := .int .i64 k) rfl (by kernel_rfl) (by kernel_rfl) (by kernel_rfl) (fun _ _ _ h => h) (Or.inl ⟨by rfl, ?_⟩) hH ?_
  · intro w hSw; (try dsimp only at hSw); go_simp
  simp only [Act.put, List.setIfInBounds_toArray, List.set_cons_zero, List.set_cons_succ]
  refine wpAnyH_take (i := 7) (v := .int .i64 k) rfl (by kernel_rfl) (by kernel_rfl) (by kernel_rfl) (fun _ _ _ h => h) (Or.inl ⟨by rfl, ?_⟩) hH ?_
  · intro w hSw; (try dsimp only at hSw); go_simp
  simp only [Act.put, List.setIfInBounds_toArray, List.set_cons_zero, List.set_cons_succ]
  refine wpAnyH_take (i := 9) (v := .int .i64 k) rfl (by kernel_rfl) (by kernel_rfl) (by kernel_rfl) (fun _ _ _ h => h) (Or.inl ⟨by rfl, ?_⟩) hH ?_
  · intro w hSw; (try dsimp only at hSw); go_simp
  simp only [Act.put, List.setIfInBounds_toArray, List.set_cons_zero, List.set_cons_succ]
  refine wpAnyH_take (i := 11) (v := .int .i64 k) rfl (by kernel_rfl) (by kernel_rfl) (by kernel_rfl) (fun _ _ _ h => h) (Or.inl ⟨by rfl, ?_⟩) hH ?_
  · intro w hSw; (try dsimp only at hSw); go_simp
  simp only [Act.put, List.setIfInBounds_toArray, List.set_cons_zero, List.set_cons_succ]
  refine wpAnyH_take (i := 12) (v := .pointer (some ⟨b0, 0, none⟩)) rfl (by kernel_rfl) (by kernel_rfl) (by kernel_rfl) (fun _ _ _ h => h) (Or.inl ⟨by rfl, ?_⟩) hH ?_
  · intro w hSw; (try dsimp only at hSw); go_simp
  simp only [Act.put, List.setIfInBounds_toArray, List.set_cons_zero, List.set_cons_succ]
  refine wpAnyH_take (i := 13) (v := .pointer (some ⟨b0, 0, none⟩)) rfl (by kernel_rfl) (by kernel_rfl) (by kernel_rfl) (fun _ _ _ h => h) (Or.inl ⟨by rfl, ?_⟩) hH ?_
  · intro w hSw; (try dsimp only at hSw); go_simp
  simp only [Act.put, List.setIfInBounds_toArray, List.set_cons_zero, List.set_cons_succ]
  refine wpAnyH_take (i := 14) (v := .pointer (some ⟨b0, 0, none⟩)) rfl (by kernel_rfl) (by kernel_rfl) (by kernel_rfl) (fun _ _ _ h => h) (Or.inl ⟨by rfl, ?_⟩) hH ?_
  · intro w hSw; (try dsimp only at hSw); go_simp
  simp only [Act.put, List.setIfInBounds_toArray, List.set_cons_zero, List.set_cons_succ]
  refine wpAnyH_take (i := 15) (v := .int .i64 m) rfl (by kernel_rfl) (by kernel_rfl) (by kernel_rfl) (fun _ _ _ h => h) (Or.inl ⟨by rfl, ?_⟩) hH ?_
  · intro w hSw; (try dsimp only at hSw); go_simp
  simp only [Act.put, List.setIfInBounds_toArray, List.set_cons_zero, List.set_cons_succ]
  refine wpAnyH_take (i := 16) (v := .int .i64 (k * m)) rfl (by kernel_rfl) (by kernel_rfl) (by kernel_rfl) (fun _ _ _ h => h) (Or.inl ⟨by rfl, ?_⟩) hH ?_
  · intro w hSw; (try dsimp only at hSw); go_simp
  simp only [Act.put, List.setIfInBounds_toArray, List.set_cons_zero, List.set_cons_succ]
  refine wpAnyH_take (i := 18) (v := .int .i64 k) rfl (by kernel_rfl) (by kernel_rfl) (by kernel_rfl) (fun _ _ _ h => h) (Or.inl ⟨by rfl, ?_⟩) hH ?_
  · intro w hSw; (try dsimp only at hSw); go_simp
  simp only [Act.put, List.setIfInBounds_toArray, List.set_cons_zero, List.set_cons_succ]
  refine wpAnyH_take (i := 19) (v := .pointer (some ⟨b0, 0, none⟩)) rfl (by kernel_rfl) (by kernel_rfl) (by kernel_rfl) (fun _ _ _ h => h) (Or.inl ⟨by rfl, ?_⟩) hH ?_
  · intro w hSw; (try dsimp only at hSw); go_simp
  simp only [Act.put, List.setIfInBounds_toArray, List.set_cons_zero, List.set_cons_succ]
  refine wpAnyH_take (i := 20) (v := .pointer (some ⟨b0, 0, none⟩)) rfl (by kernel_rfl) (by kernel_rfl) (by kernel_rfl) (fun _ _ _ h => h) (Or.inl ⟨by rfl, ?_⟩) hH ?_
  · intro w hSw; (try dsimp only at hSw); go_simp
  simp only [Act.put, List.setIfInBounds_toArray, List.set_cons_zero, List.set_cons_succ]
  refine wpAnyH_take (i := 21) (v := .pointer (some ⟨b0, 0, none⟩)) rfl (by kernel_rfl) (by kernel_rfl) (by kernel_rfl) (fun _ _ _ h => h) (Or.inl ⟨by rfl, ?_⟩) hH ?_
  · intro w hSw; (try dsimp only at hSw); go_simp
  simp only [Act.put, List.setIfInBounds_toArray, List.set_cons_zero, List.set_cons_succ]
  refine wpAnyH_take (i := 22) (v := .int .i64 m) rfl (by kernel_rfl) (by kernel_rfl) (by kernel_rfl) (fun _ _ _ h => h) (Or.inl ⟨by rfl, ?_⟩) hH ?_
  · intro w hSw; (try dsimp only at hSw); go_simp
  simp only [Act.put, List.setIfInBounds_toArray, List.set_cons_zero, List.set_cons_succ]
  refine wpAnyH_take (i := 23) (v := .int .i64 (k * m)) rfl (by kernel_rfl) (by kernel_rfl) (by kernel_rfl) (fun _ _ _ h => h) (Or.inl ⟨by rfl, ?_⟩) hH ?_
  · intro w hSw; (try dsimp only at hSw); go_simp
  simp only [Act.put, List.setIfInBounds_toArray, List.set_cons_zero, List.set_cons_succ]
  refine wpAnyH_take (i := 25) (v := .pointer (some ⟨b0, 0, none⟩)) rfl (by kernel_rfl) (by kernel_rfl) (by kernel_rfl) (fun _ _ _ h => h) (Or.inl ⟨by rfl, ?_⟩) hH ?_
  · intro w hSw; (try dsimp only at hSw); go_simp
  simp only [Act.put, List.setIfInBounds_toArray, List.set_cons_zero, List.set_cons_succ]
  refine wpAnyH_take (i := 26) (v := .pointer (some ⟨b0, 0, none⟩)) rfl (by kernel_rfl) (by kernel_rfl) (by kernel_rfl) (fun _ _ _ h => h) (Or.inl ⟨by rfl, ?_⟩) hH ?_
  · intro w hSw; (try dsimp only at hSw); go_simp
  simp only [Act.put, List.setIfInBounds_toArray, List.set_cons_zero, List.set_cons_succ]
  refine wpAnyH_take (i := 27) (v := .pointer (some ⟨b0, 0, none⟩)) rfl (by kernel_rfl) (by kernel_rfl) (by kernel_rfl) (fun _ _ _ h => h) (Or.inl ⟨by rfl, ?_⟩) hH ?_
  · intro w hSw; (try dsimp only at hSw); go_simp
  simp only [Act.put, List.setIfInBounds_toArray, List.set_cons_zero, List.set_cons_succ]
  refine wpAnyH_take (i := 28) (v := .int .i64 m) rfl (by kernel_rfl) (by kernel_rfl) (by kernel_rfl) (fun _ _ _ h => h) (Or.inl ⟨by rfl, ?_⟩) hH ?_
  · intro w hSw; (try dsimp only at hSw); go_simp
  simp only [Act.put, List.setIfInBounds_toArray, List.set_cons_zero, List.set_cons_succ]
  refine wpAnyH_take (i := 30) (v := .pointer (some ⟨b0, 0, none⟩)) rfl (by kernel_rfl) (by kernel_rfl) (by kernel_rfl) (fun _ _ _ h => h) (Or.inl ⟨by rfl, ?_⟩) hH ?_
  · intro w hSw; (try dsimp only at hSw); go_simp
  simp only [Act.put, List.setIfInBounds_toArray, List.set_cons_zero, List.set_cons_succ]
  refine wpAnyH_take (i := 31) (v := .pointer (some ⟨b0, 0, none⟩)) rfl (by kernel_rfl) (by kernel_rfl) (by kernel_rfl) (fun _ _ _ h => h) (Or.inl ⟨by rfl, ?_⟩) hH ?_
  · intro w hSw; (try dsimp only at hSw); go_simp
  simp only [Act.put, List.setIfInBounds_toArray, List.set_cons_zero, List.set_cons_succ]
  refine wpAnyH_take (i := 32) (v := .pointer (some ⟨b0, 0, none⟩)) rfl (by kernel_rfl) (by kernel_rfl) (by kernel_rfl) (fun _ _ _ h => h) (Or.inl ⟨by rfl, ?_⟩) hH ?_
  · intro w hSw; (try dsimp only at hSw); go_simp
  simp only [Act.put, List.setIfInBounds_toArray, List.set_cons_zero, List.set_cons_succ]
  refine wpAnyH_take (i := 33) (v := .int .i64 m) rfl (by kernel_rfl) (by kernel_rfl) (by kernel_rfl) (fun _ _ _ h => h) (Or.inl ⟨by rfl, ?_⟩) hH ?_
  · intro w hSw; (try dsimp only at hSw); go_simp
  simp only [Act.put, List.setIfInBounds_toArray, List.set_cons_zero, List.set_cons_succ]
  refine wpAnyH_take (i := 35) (v := .int .i64 k) rfl (by kernel_rfl) (by kernel_rfl) (by kernel_rfl) (fun _ _ _ h => h) (Or.inl ⟨by rfl, ?_⟩) hH ?_
  · intro w hSw; (try dsimp only at hSw); go_simp
  simp only [Act.put, List.setIfInBounds_toArray, List.set_cons_zero, List.set_cons_succ]
  refine wpAnyH_take (i := 36) (v := .int .i64 (k + 1)) rfl (by kernel_rfl) (by kernel_rfl) (by kernel_rfl) (fun _ _ _ h => h) (Or.inl ⟨by rfl, ?_⟩) hH ?_
  · intro w hSw; (try dsimp only at hSw); go_simp
  simp only [Act.put, List.setIfInBounds_toArray, List.set_cons_zero, List.set_cons_succ]
  refine wpAnyH_cast (fuel := 7 + 3) (listed := Ld (fun _ => false)) (a := Fr b0 m k (fun _ => undef)) (by kernel_rfl) (by kernel_rfl) (by kernel_rfl) ?_
  refine makes Ms (by decide) Ld (Fr b0 m k) (Ob m k) (Sz m k) (w.drewN (q + 1)) 3 (ready_of_chk (by kernel_rfl)) Ld_set Ld_all ?hop ?hS ?hfin 7 _ _ _ (fun _ => 0) (by decide) ⟨?_, ?_, ?_⟩ hH
  case hS => exact fun w o h => ⟨by rw [World.cell?_alloc_some _ _ _ (by rw [h.1]; rfl)]; exact h.1, by rw [World.cell?_alloc_some _ _ _ (by rw [h.2]; rfl)]; exact h.2⟩
  case hop =>
    obtain ⟨i3, hi3, hz3, hs3, hb3⟩ := info_parts Yba.info3
    obtain ⟨i33, hi33, hz33, hs33, hb33⟩ := info_parts Yba.info33
    obtain ⟨i103, hi103, hz103, hs103, hb103⟩ := info_parts Yba.info103
    obtain ⟨i104, hi104, hz104, hs104, hb104⟩ := info_parts Yba.info104
    have e31 := fun w => run_make (P := Yba.prog) w 31 103 i103 Z103 Yba.underlying31 hi103 hz103 .i64 .i64 k k (by omega) (by omega) (by rw [hb103]; omega) (by omega)
    have e32 := fun w => run_make (P := Yba.prog) w 32 33 i33 _ Yba.underlying32 hi33 hz33 .i64 .i64 k k (by omega) (by omega) (by rw [hb33]; omega) (by omega)
    have e33 := fun w => run_make (P := Yba.prog) w 33 3 i3 _ Yba.underlying33 hi3 hz3 .i64 .i64 (k * m) (k * m) (by omega) (by omega) (by rw [hb3]; omega) (by omega)
    have e32m := fun w => run_make (P := Yba.prog) w 32 33 i33 _ Yba.underlying32 hi33 hz33 .i64 .i64 m m (by omega) (by omega) (by rw [hb33]; omega) (by omega)
    have e33m := fun w => run_make (P := Yba.prog) w 33 3 i3 _ Yba.underlying33 hi3 hz3 .i64 .i64 m m (by omega) (by omega) (by rw [hb3]; omega) (by omega)
    have e34 := fun w => run_make (P := Yba.prog) w 34 104 i104 _ Yba.underlying34 hi104 hz104 .i64 .i64 (k + 1) (k + 1) (by omega) (by omega) (by rw [hb104]; omega) (by omega)
    have tkm : ((k : Int) * (m : Int)).toNat = k * m := by have := idx_toNat k m 0; simpa using this
    have tk1 : ((k : Int) + 1).toNat = k + 1 := by omega
    simp only [Int.toNat_natCast, tkm, tk1, hs103, hs33, hs3, hs104, Nat.mul_one] at e31 e32 e33 e32m e33m e34
    intro i hi
    simp only [Ms, List.mem_cons, List.not_mem_nil, or_false] at hi
    rcases hi with rfl | rfl | rfl | rfl | rfl | rfl | rfl
    · exact ⟨_, rfl, rfl, fun s => ⟨fun w _ => exec_make 31 19 (.int .i64 k) _ (fun w => w.alloc (Ob m k 8)) rfl rfl w (e31 w), fun v => rfl⟩⟩
    · exact ⟨_, rfl, rfl, fun s => ⟨fun w _ => exec_make 32 21 (.int .i64 k) _ (fun w => w.alloc (Ob m k 10)) rfl rfl w (e32 w), fun v => rfl⟩⟩
    · exact ⟨_, rfl, rfl, fun s => ⟨fun w _ => exec_make 33 28 (.int .i64 (k * m)) _ (fun w => w.alloc (Ob m k 17)) rfl rfl w (e33 w), fun v => rfl⟩⟩
    · exact ⟨_, rfl, rfl, fun s => ⟨fun w _ => exec_make 33 35 (.int .i64 (k * m)) _ (fun w => w.alloc (Ob m k 24)) rfl rfl w (e33 w), fun v => rfl⟩⟩
    · exact ⟨_, rfl, rfl, fun s => ⟨fun w _ => exec_make 32 40 (.int .i64 m) _ (fun w => w.alloc (Ob m k 29)) rfl rfl w (e32m w), fun v => rfl⟩⟩
    · exact ⟨_, rfl, rfl, fun s => ⟨fun w _ => exec_make 33 45 (.int .i64 m) _ (fun w => w.alloc (Ob m k 34)) rfl rfl w (e33m w), fun v => rfl⟩⟩
    · exact ⟨_, rfl, rfl, fun s => ⟨fun w _ => exec_make 34 48 (.int .i64 (k + 1)) _ (fun w => w.alloc (Ob m k 37)) rfl rfl w (e34 w), fun v => rfl⟩⟩
  case hfin =>
    intro s W blk hM hS
    have h8 : s 8 = .slice (some ⟨blk 8, 0, none⟩) k k := (hM.val 8 (by decide) rfl).1
    have h10 : s 10 = .slice (some ⟨blk 10, 0, none⟩) k k := (hM.val 10 (by decide) rfl).1
    have h17 : s 17 = .slice (some ⟨blk 17, 0, none⟩) (k * m) (k * m) := (hM.val 17 (by decide) rfl).1
    have h24 : s 24 = .slice (some ⟨blk 24, 0, none⟩) (k * m) (k * m) := (hM.val 24 (by decide) rfl).1
    have h29 : s 29 = .slice (some ⟨blk 29, 0, none⟩) m m := (hM.val 29 (by decide) rfl).1
    have h34 : s 34 = .slice (some ⟨blk 34, 0, none⟩) m m := (hM.val 34 (by decide) rfl).1
    have h37 : s 37 = .slice (some ⟨blk 37, 0, none⟩) (k + 1) (k + 1) := (hM.val 37 (by decide) rfl).1
    simp only [Fr, h8, h10, h17, h24, h29, h34, h37]
    clear h8 h10 h17 h24 h29 h34 h37
    have HM : Hid (Made (w.drewN (q + 1)) W Ms (fun _ => true) s blk (Ob m k) (Sz m k)) := hM
    clear hM hH
    refine wpAnyH_ready (rs := [38]) (by kernel_rfl) (by simp) ?_
    refine AllReadyH.cons rfl (fun K hK => ?_) AllReadyH.nil
    go_simp
    refine hK.out _ _ hS (fun hH => ?_)
    clear hK K
    refine wpAnyH_ready (rs := [39]) (by kernel_rfl) (by simp) ?_
    refine AllReadyH.cons rfl (fun K hK => ?_) AllReadyH.nil
    go_simp
    refine hK.out _ _ ⟨by rw [World.cell?_alloc_some _ _ _ (by rw [hH.1]; rfl)]; exact hH.1, by rw [World.cell?_alloc_some _ _ _ (by rw [hH.2]; rfl)]; exact hH.2⟩ (fun hH => ?_)
    clear hK K hS
    have HF : Hid (Fresh w (W.alloc (.cells (SimCells b0 m k blk) 37)) b0 W.heap.size (blk 10) (blk 24) (blk 29) (blk 34) m k (fun _ => 0)) := fresh_start HM.out c0
    obtain ⟨W1, hW1⟩ : ∃ W1, W1 = (W.alloc (.cells (SimCells b0 m k blk) 37)) := ⟨_, rfl⟩
    rw [← hW1] at HF
    unfold SimCells at hW1
    rw [← hW1]
    clear hW1 hH HM
    generalize W.heap.size = bs at HF ⊢
    generalize blk 8 = b8
    generalize blk 10 = bp at HF ⊢
    generalize blk 17 = b17
    generalize blk 24 = bh at HF ⊢
    generalize blk 29 = bhd at HF ⊢
    generalize blk 34 = bl at HF ⊢
    generalize blk 37 = b37
    refine wpAnyH_ready (rs := [40]) (by kernel_rfl) (by simp) ?_
    refine AllReadyH.cons rfl (fun K hK => ?_) AllReadyH.nil
    go_simp
    refine hK.out _ _ ⟨HF.out.c1, ?_⟩ (fun _ => ?_)
    · exact (HF.out.chg.cell (by exact lb0) (fun h => h)).trans c2
    clear hK K
    refine wpAnyH_done (by kernel_rfl) ?_ _
    have d7 := HF.out.c7
    go_wp2_with fail
    go_loopw [57] (fun v wr => ∃ i : Nat, i ≤ k * m ∧ v = .int .i64 i ∧ Hid (Fresh w wr b0 bs bp bh bhd bl m k (fun x => if x < i then -1 else 0))) (fun v _ => k * m - (intOf v).toNat)
    case atStart => exact ⟨0, Nat.zero_le _, rfl, HF.out.congr (fun i _ => by simp)⟩
    case round =>
      obtain ⟨i, hi, rfl, HR⟩ := hrel
      have d7 := HR.out.c7
      clear HF
      by_cases hlt : i < k * m
      · have hlt' : (i : Int) < (k : Int) * (m : Int) := by have := Int.ofNat_lt.2 hlt; simpa using this
        have e1 := HR.out.rh.cell hlt
        have f1 := HR.out.rh.frozen i
        go_wp2
        go_roundw
        case rel =>
          refine ⟨i + 1, by omega, by go_num, (HR.out.set i (-1)).congr (fun x _ => ?_)⟩
          by_cases e : x = i
          · rw [if_pos e, if_pos (by omega)]
          · rw [if_neg e]
            by_cases e2 : x < i
            · rw [if_pos e2, if_pos (by omega)]
            · rw [if_neg e2, if_neg (by omega)]
        case measure => simp [intOf]; omega
      · have hlt' : ¬ (i : Int) < (k : Int) * (m : Int) := by
          have : ((k * m : Nat) : Int) = (k : Int) * (m : Int) := by simp
          omega
        go_wp2
        go_ret
        exact ⟨bs, rfl, bp, bh, bhd, bl, HR.out.congr (fun x hx => by rw [if_pos (by omega)])⟩
  · exact (Chg.refl _ _)
  · exact fun i _ h => by cases h
  · exact fun i _ _ _ h => by cases h
end Go.Proofs.Ybulkcqyu
