/-
  LawS4635BHeads: what the law's own loops hold in memory, step by step. No walk here.
-/
import Derived.Test.YbulkcqyuBNew
import Derived.Test.YbulkcqyuBPlain
namespace Go.Proofs.Ybulkcqyu
set_option linter.unusedVariables false
set_option linter.unusedSimpArgs false
open Go.RowKit Go.Deep

/-- which block is which, the law's own two rows too -/
structure LayB (wsz base b0 bs bp bh bhd bl be br : Nat) : Prop where
  lay : Lay base b0 bs bp bh bhd bl
  o0 : wsz ≤ b0
  os : wsz ≤ bs
  op : wsz ≤ bp
  oh : wsz ≤ bh
  ohd : wsz ≤ bhd
  ol : wsz ≤ bl
  oe : wsz ≤ be
  or : wsz ≤ br
  le : be < base
  lr : br < base
  er : be ≠ br
  e1 : be ≠ b0
  e2 : be ≠ bs
  e3 : be ≠ bp
  e4 : be ≠ bh
  e5 : be ≠ bhd
  e6 : be ≠ bl
  r1 : br ≠ b0
  r2 : br ≠ bs
  r3 : br ≠ bp
  r4 : br ≠ bh
  r5 : br ≠ bhd
  r6 : br ≠ bl
  p0 : bp ≠ b0
  ps : bp ≠ bs

structure Big (w W : World) (base b0 bs bp bh bhd bl be br m k : Nat) (hd lv : Nat → Int) (hv : Nat → Value) (hx : Nat → List Nat) (head recv : Nat → Bool) (PV : Nat → Value) : Prop where
  sim : Sim W base b0 bs bp bh bhd bl m k hd lv hv hx
  re : W.rowIs be 4 (m * k) (fun x => .bool (head x))
  rr : W.rowIs br 4 (m * k) (fun x => .bool (recv x))
  rp : W.rowIs bp 33 k PV
  old : Chg (fun _ => False) w W
  bsz : base ≤ W.heap.size

section
variable {w W W' : World} {base b0 bs bp bh bhd bl be br m k : Nat} {hd lv : Nat → Int} {hv : Nat → Value} {hx : Nat → List Nat} {head recv : Nat → Bool} {PV : Nat → Value}

/-- a step that touches none of these blocks -/
theorem Sim.keep {S : Nat → Prop} (h : Sim W base b0 bs bp bh bhd bl m k hd lv hv hx) (hc : Chg S W W') (hS : ∀ b, S b → b < W.heap.size → b ≠ b0 ∧ b ≠ bs ∧ b ≠ bh ∧ b ≠ bl ∧ b ≠ bhd ∧ b < base) : Sim W' base b0 bs bp bh bhd bl m k hd lv hv hx := by
  have cell : ∀ b o v, W.cell? ⟨b, o, none⟩ = some v → (b = b0 ∨ b = bs) → W'.cell? ⟨b, o, none⟩ = some v := by
    intro b o v hv hb
    have hlt := World.block_lt_of_cell? W _ hv
    rw [hc.cell (by exact hlt) (fun hs => by have := hS b hs hlt; omega)]
    exact hv
  have row : ∀ {b t n f}, W.rowIs b t n f → (b = bh ∨ b = bl ∨ b = bhd) → W'.rowIs b t n f := fun hr hb => hc.row hr (fun hs => by have := hS _ hs hr.lt; omega)
  refine ⟨cell _ _ _ h.c0 (.inr rfl), cell _ _ _ h.c1 (.inl rfl), cell _ _ _ h.c2 (.inr rfl), cell _ _ _ h.c5 (.inr rfl), cell _ _ _ h.c7 (.inr rfl), cell _ _ _ h.c8 (.inr rfl), cell _ _ _ h.c9 (.inr rfl),
    row h.rh (.inl rfl), row h.rl (.inr (.inl rfl)), row h.rhd (.inr (.inr rfl)), fun i hi => hc.owns (h.own i hi) (fun b hb hs => ?_), h.apart⟩
  have := (h.own i hi).lt b hb
  have := hS b hs this.2
  omega

/-- new blocks alone -/
theorem Big.grow (h : Big w W base b0 bs bp bh bhd bl be br m k hd lv hv hx head recv PV) (hc : Chg (fun _ => False) W W') : Big w W' base b0 bs bp bh bhd bl be br m k hd lv hv hx head recv PV :=
  ⟨h.sim.keep hc (fun _ hs => hs.elim), hc.row h.re (fun h => h), hc.row h.rr (fun h => h), hc.row h.rp (fun h => h), h.old.trans hc, Nat.le_trans h.bsz hc.size⟩

/-- a store into parents -/
theorem Big.parent (L : LayB w.heap.size base b0 bs bp bh bhd bl be br) (h : Big w W base b0 bs bp bh bhd bl be br m k hd lv hv hx head recv PV) (i : Nat) (v : Value) : Big w (W.setCell ⟨bp, i, none⟩ v) base b0 bs bp bh bhd bl be br m k hd lv hv hx head recv (fun j => if j = i then v else PV j) := by
  have l := L.lay
  have hc : Chg (fun b => b = bp) W (W.setCell ⟨bp, i, none⟩ v) := (Chg.refl (fun b => b = bp) W).setCell (p := ⟨bp, i, none⟩) (fun _ => rfl) _
  refine ⟨h.sim.keep hc (fun b hs _ => ?_), hc.row h.re L.e3, hc.row h.rr L.r3, h.rp.set i v, h.old.setCell (fun hh => ?_) _, by rw [nblk_setCell]; exact h.bsz⟩
  · have := l.n7; have := l.n8; have := l.n9; have := l.lp; have := L.p0; have := L.ps; omega
  · have := L.op; dsimp only at hh; omega
/-- a store into head -/
theorem Big.setHead (L : LayB w.heap.size base b0 bs bp bh bhd bl be br) (h : Big w W base b0 bs bp bh bhd bl be br m k hd lv hv hx head recv PV) (i : Nat) (v : Bool) : Big w (W.setCell ⟨be, i, none⟩ (.bool v)) base b0 bs bp bh bhd bl be br m k hd lv hv hx (fun j => if j = i then v else head j) recv PV := by
  have hc : Chg (fun b => b = be) W (W.setCell ⟨be, i, none⟩ (.bool v)) := (Chg.refl (fun b => b = be) W).setCell (p := ⟨be, i, none⟩) (fun _ => rfl) _
  refine ⟨h.sim.keep hc (fun b hs _ => ?_), (h.re.set i _).congr (fun j _ => by split <;> rfl), hc.row h.rr (fun e => L.er e.symm), hc.row h.rp (fun e => L.e3 e.symm), h.old.setCell (fun hh => ?_) _, by rw [nblk_setCell]; exact h.bsz⟩
  · have := L.e1; have := L.e2; have := L.e4; have := L.e5; have := L.e6; have := L.le; omega
  · have := L.oe; dsimp only at hh; omega
/-- a store into recv -/
theorem Big.setRecv (L : LayB w.heap.size base b0 bs bp bh bhd bl be br) (h : Big w W base b0 bs bp bh bhd bl be br m k hd lv hv hx head recv PV) (i : Nat) (v : Bool) : Big w (W.setCell ⟨br, i, none⟩ (.bool v)) base b0 bs bp bh bhd bl be br m k hd lv hv hx head (fun j => if j = i then v else recv j) PV := by
  have hc : Chg (fun b => b = br) W (W.setCell ⟨br, i, none⟩ (.bool v)) := (Chg.refl (fun b => b = br) W).setCell (p := ⟨br, i, none⟩) (fun _ => rfl) _
  refine ⟨h.sim.keep hc (fun b hs _ => ?_), hc.row h.re L.er, (h.rr.set i _).congr (fun j _ => by split <;> rfl), hc.row h.rp (fun e => L.r3 e.symm), h.old.setCell (fun hh => ?_) _, by rw [nblk_setCell]; exact h.bsz⟩
  · have := L.r1; have := L.r2; have := L.r4; have := L.r5; have := L.r6; have := L.lr; omega
  · have := L.or; dsimp only at hh; omega
/-- receive -/
theorem Big.received (L : LayB w.heap.size base b0 bs bp bh bhd bl be br) {hd' lv' : Nat → Int} {j n : Nat} (h : Big w W base b0 bs bp bh bhd bl be br m k hd lv hv hx head recv PV) (hj : j < m) (hp : RecvPost W W' base b0 bs bp bh bhd bl m k hd' lv' hv hx j n) :
    ∃ hv' hx', Big w W' base b0 bs bp bh bhd bl be br m k hd' lv' hv' hx' head recv PV ∧ (∀ i, i ≠ j → hv' i = hv i ∧ hx' i = hx i) ∧ hx' j = recvHx m j n hd' (lv' j) (hx j) ∧
      Chg (fun b => b = bh ∨ b = bl ∨ b = bhd ∨ (hv j).ownBlock = some b) W W' ∧ ((hv' j).ownBlock = (hv j).ownBlock ∨ ∃ g, (hv' j).ownBlock = some g ∧ W.heap.size ≤ g) := by
  obtain ⟨hv', hx', h1, h2, h3, h4, h5⟩ := hp
  have ho : ∀ b, b < base → (hv j).ownBlock ≠ some b := fun b hb e => by have := (h.sim.own j hj).lt b e; omega
  refine ⟨hv', hx', ⟨h1, h4.row h.re ?_, h4.row h.rr ?_, h4.row h.rp ?_, h.old.andThen h4 ?_, Nat.le_trans h.bsz h4.size⟩, h2, h3, h4, h5⟩
  · intro e
    rcases e with e | e | e | e
    · exact L.e4 e
    · exact L.e6 e
    · exact L.e5 e
    · exact ho _ L.le e
  · intro e
    rcases e with e | e | e | e
    · exact L.r4 e
    · exact L.r6 e
    · exact L.r5 e
    · exact ho _ L.lr e
  · intro e
    rcases e with e | e | e | e
    · exact L.lay.n7 e
    · exact L.lay.n8 e
    · exact L.lay.n9 e
    · exact ho _ L.lay.lp e
  · intro b hb hlt
    have := L.oh; have := L.ol; have := L.ohd
    rcases hb with e | e | e | e
    · omega
    · omega
    · omega
    · have := (h.sim.own j hj).lt b e
      have hb0 := L.lay.l0; have := L.o0
      omega
end

/-- the start -/
theorem big_start {w W0 W1 : World} {b0 bs bp bh bhd bl m k : Nat} {o : Obj} (e0 : W0 = w.alloc o) (eb : b0 = w.heap.size) (hF : Fresh W0 W1 b0 bs bp bh bhd bl m k (fun _ => -1)) :
    LayB w.heap.size (W1.heap.size + 2) b0 bs bp bh bhd bl W1.heap.size (W1.heap.size + 1) ∧
    Big w ((W1.alloc (.cells (madeCells #[.bool false] (m * k)) 4)).alloc (.cells (madeCells #[.bool false] (m * k)) 4)) (W1.heap.size + 2) b0 bs bp bh bhd bl W1.heap.size (W1.heap.size + 1) m k (fun _ => -1) (fun _ => 0) (fun _ => .slice none 0 0) (fun _ => []) (fun _ => false) (fun _ => false) (fun _ => .slice none 0 0) := by
  have hc0 : Chg (fun _ => False) w W0 := by rw [e0]; exact (Chg.refl _ _).alloc _
  have s0 : W0.heap.size = w.heap.size + 1 := by rw [e0]; exact nblk_alloc _ _
  have hsz := hF.chg.size
  have b1 := hF.bs_lt
  have b2 := hF.rp.lt
  have b3 := hF.rh.lt
  have b4 := hF.rhd.lt
  have b5 := hF.rl.lt
  have a1 := hF.ls
  have a2 := hF.lp
  have a3 := hF.lh
  have a4 := hF.lhd
  have a5 := hF.ll
  refine ⟨⟨⟨by omega, by omega, by omega, by omega, by omega, by omega, hF.n1, hF.n2, hF.n3, by omega, by omega, by omega, hF.n7, hF.n8, hF.n9, hF.n10, hF.n11, hF.n12⟩, by omega, by omega, by omega, by omega, by omega, by omega, by omega, by omega, by omega, by omega, by omega, by omega, by omega, by omega, by omega, by omega, by omega, by omega, by omega, by omega, by omega, by omega, by omega, by omega, by have := hF.n0; omega⟩, ?_⟩
  have hc2 : Chg (fun _ => False) W1 ((W1.alloc (.cells (madeCells #[.bool false] (m * k)) 4)).alloc (.cells (madeCells #[.bool false] (m * k)) 4)) := ((Chg.refl _ _).alloc _).alloc _
  have sim1 : Sim W1 (W1.heap.size + 2) b0 bs bp bh bhd bl m k (fun _ => -1) (fun _ => 0) (fun _ => .slice none 0 0) (fun _ => []) :=
    ⟨hF.c0, hF.c1, hF.c2, hF.c5, hF.c7, hF.c8, hF.c9, hF.rh, hF.rl, hF.rhd, fun i _ => World.ownsRow_nil _ _ _ _, fun i i' _ _ _ g h => by cases h⟩
  have e1 : (W1.alloc (.cells (madeCells #[.bool false] (m * k)) 4)).rowIs W1.heap.size 4 (m * k) (fun _ => .bool false) := World.rowIs_made _ _ _ _
  have e2 : ((W1.alloc (.cells (madeCells #[.bool false] (m * k)) 4)).alloc (.cells (madeCells #[.bool false] (m * k)) 4)).rowIs (W1.heap.size + 1) 4 (m * k) (fun _ => .bool false) := by
    have := World.rowIs_made (W1.alloc (.cells (madeCells #[.bool false] (m * k)) 4)) (.bool false) (m * k) 4
    rw [nblk_alloc] at this
    exact this
  exact ⟨sim1.keep hc2 (fun _ h => h.elim), e1.alloc _, e2, hc2.row hF.rp (fun h => h), (hc0.trans hF.chg).trans hc2, by rw [nblk_alloc, nblk_alloc]; omega⟩

/-- What holds while round i goes over the members: the step's own copy, the list of parents. -/
structure Turn (w W : World) (base b0 bs bp bh bhd bl be br m k : Nat) (hd lv : Nat → Int) (hv : Nat → Value) (hx : Nat → List Nat) (head recv : Nat → Bool) (PV : Nat → Value) (i stb gp plen : Nat) (v : Value) (me pa : Int) (Ps : Nat → Nat) : Prop where
  big : Big w W base b0 bs bp bh bhd bl be br m k hd lv hv hx head recv PV
  pv : PV i = v
  s0 : W.cell? ⟨stb, 0, none⟩ = some (.int .u16 me)
  s1 : W.cell? ⟨stb, 1, none⟩ = some (.int .u64 pa)
  gc : ∀ t, t < plen → W.cell? ⟨gp, t, none⟩ = some (.int .i64 (Ps t))
  ls : base ≤ stb
  lg : base ≤ gp
  av : ∀ b, b < m → (hv b).ownBlock ≠ some stb ∧ (hv b).ownBlock ≠ some gp

section
variable {w W W' : World} {base b0 bs bp bh bhd bl be br m k : Nat} {hd lv : Nat → Int} {hv : Nat → Value} {hx : Nat → List Nat} {head recv : Nat → Bool} {PV : Nat → Value} {i stb gp plen : Nat} {v : Value} {me pa : Int} {Ps : Nat → Nat}

/-- the cells of the copy and of the parents are kept by a step elsewhere -/
theorem Turn.keep {S : Nat → Prop} {hd' lv' : Nat → Int} {hv' : Nat → Value} {hx' : Nat → List Nat} {head' recv' : Nat → Bool} (h : Turn w W base b0 bs bp bh bhd bl be br m k hd lv hv hx head recv PV i stb gp plen v me pa Ps)
    (hb : Big w W' base b0 bs bp bh bhd bl be br m k hd' lv' hv' hx' head' recv' PV) (hc : Chg S W W') (h1 : ¬ S stb) (h2 : 0 < plen → ¬ S gp) (hav : ∀ b, b < m → (hv' b).ownBlock ≠ some stb ∧ (hv' b).ownBlock ≠ some gp) :
    Turn w W' base b0 bs bp bh bhd bl be br m k hd' lv' hv' hx' head' recv' PV i stb gp plen v me pa Ps :=
  ⟨hb, h.pv, by rw [hc.cell (World.block_lt_of_cell? W _ h.s0) h1]; exact h.s0, by rw [hc.cell (World.block_lt_of_cell? W _ h.s1) h1]; exact h.s1,
    fun t ht => by rw [hc.cell (World.block_lt_of_cell? W _ (h.gc t ht)) (h2 (by omega))]; exact h.gc t ht, h.ls, h.lg, hav⟩

theorem Turn.setHead (L : LayB w.heap.size base b0 bs bp bh bhd bl be br) (h : Turn w W base b0 bs bp bh bhd bl be br m k hd lv hv hx head recv PV i stb gp plen v me pa Ps) (x : Nat) (y : Bool) :
    Turn w (W.setCell ⟨be, x, none⟩ (.bool y)) base b0 bs bp bh bhd bl be br m k hd lv hv hx (fun j => if j = x then y else head j) recv PV i stb gp plen v me pa Ps :=
  h.keep (S := fun b => b = be) (h.big.setHead L x y) ((Chg.refl (fun b => b = be) W).setCell (p := ⟨be, x, none⟩) (fun _ => rfl) _) (fun e => by have := h.ls; have := L.le; omega) (fun _ e => by have := h.lg; have := L.le; omega) h.av
theorem Turn.setRecv (L : LayB w.heap.size base b0 bs bp bh bhd bl be br) (h : Turn w W base b0 bs bp bh bhd bl be br m k hd lv hv hx head recv PV i stb gp plen v me pa Ps) (x : Nat) (y : Bool) :
    Turn w (W.setCell ⟨br, x, none⟩ (.bool y)) base b0 bs bp bh bhd bl be br m k hd lv hv hx head (fun j => if j = x then y else recv j) PV i stb gp plen v me pa Ps :=
  h.keep (S := fun b => b = br) (h.big.setRecv L x y) ((Chg.refl (fun b => b = br) W).setCell (p := ⟨br, x, none⟩) (fun _ => rfl) _) (fun e => by have := h.ls; have := L.lr; omega) (fun _ e => by have := h.lg; have := L.lr; omega) h.av
theorem Turn.received (L : LayB w.heap.size base b0 bs bp bh bhd bl be br) {hd' lv' : Nat → Int} {j n : Nat} (h : Turn w W base b0 bs bp bh bhd bl be br m k hd lv hv hx head recv PV i stb gp plen v me pa Ps) (hj : j < m) (lg : gp < W.heap.size) (hp : RecvPost W W' base b0 bs bp bh bhd bl m k hd' lv' hv hx j n) :
    ∃ hv' hx', Turn w W' base b0 bs bp bh bhd bl be br m k hd' lv' hv' hx' head recv PV i stb gp plen v me pa Ps ∧ (∀ i, i ≠ j → hx' i = hx i) ∧ hx' j = recvHx m j n hd' (lv' j) (hx j) ∧ gp < W'.heap.size := by
  obtain ⟨hv', hx', h1, h2, h3, h4, h5⟩ := h.big.received L hj hp
  have hl := L.lay
  have ls := World.block_lt_of_cell? W _ h.s0
  refine ⟨hv', hx', h.keep h1 h4 ?_ ?_ ?_, fun i hi => (h2 i hi).2, h3, Nat.lt_of_lt_of_le lg h4.size⟩
  · intro e
    have := h.ls; have := hl.lh; have := hl.ll; have := hl.lhd
    rcases e with e | e | e | e
    · omega
    · omega
    · omega
    · exact (h.av j hj).1 e
  · intro _ e
    have := h.lg; have := hl.lh; have := hl.ll; have := hl.lhd
    rcases e with e | e | e | e
    · omega
    · omega
    · omega
    · exact (h.av j hj).2 e
  · intro b hb
    by_cases e : b = j
    · subst e
      rcases h5 with h5 | ⟨g, hg, hge⟩
      · rw [h5]; exact h.av b hb
      · rw [hg]
        dsimp only at ls
        exact ⟨fun e => by simp only [Option.some.injEq] at e; omega, fun e => by simp only [Option.some.injEq] at e; omega⟩
    · rw [(h2 b e).1]; exact h.av b hb

/-- what a list of parents that was built by append looks like -/
theorem ps_form {B n d : Nat} {xs : List Nat} (h : W.ownsRow B 3 1 v n (ints xs)) (hd : d < W.heap.size) (hB : d ≤ B) : ∃ ap gp pcap, v = .slice ap n pcap ∧ (0 < n → ap = some ⟨gp, 0, none⟩) ∧ d ≤ gp ∧ gp < W.heap.size ∧ n = xs.length ∧ ∀ t, t < n → W.cell? ⟨gp, t, none⟩ = some (.int .i64 ((xs.getD t 0 : Nat) : Int)) := by
  have hl : n = xs.length := by have := h.1; rw [ints_length] at this; omega
  rcases h.2 with ⟨hv, h0⟩ | ⟨g, cap, cur, hv, hb, hg, _⟩
  · exact ⟨none, d, 0, by rw [hv, h0], fun h => by omega, Nat.le_refl _, hd, hl, fun t ht => by omega⟩
  · rw [hv] at h
    obtain ⟨h1, h2, _, _, _, F, hr, hF⟩ := rowOfOwns h
    refine ⟨some ⟨g, 0, none⟩, g, cap, hv, fun _ => rfl, by omega, h2, hl, fun t ht => ?_⟩
    have e := hF t ht
    rw [hl] at ht
    simp only [ints, List.getElem?_map, List.getElem?_eq_getElem ht, Option.map_some, Option.some.injEq] at e
    rw [hr.cell (by omega), ← e, getD_lt ht]
end

/-- the round's start: the copy is laid, the parents are gathered and stored -/
theorem turn_start {w Wi W3 Wq : World} {base b0 bs bp bh bhd bl be br m k : Nat} {hd lv : Nat → Int} {hv : Nat → Value} {hx : Nat → List Nat} {head recv : Nat → Bool} {PV : Nat → Value} {i gp plen : Nat} {v : Value} {me pa : Int} {Ps : Nat → Nat}
    (L : LayB w.heap.size base b0 bs bp bh bhd bl be br) (hB : Big w Wi base b0 bs bp bh bhd bl be br m k hd lv hv hx head recv PV) (h3 : Chg (fun _ => False) Wi W3) (hq : Chg (fun _ => False) W3 Wq)
    (a0 : W3.cell? ⟨Wi.heap.size, 0, none⟩ = some (.int .u16 me)) (a1 : W3.cell? ⟨Wi.heap.size, 1, none⟩ = some (.int .u64 pa)) (hg : Wi.heap.size ≤ gp) (hgc : ∀ t, t < plen → Wq.cell? ⟨gp, t, none⟩ = some (.int .i64 (Ps t))) :
    Turn w (Wq.setCell ⟨bp, i, none⟩ v) base b0 bs bp bh bhd bl be br m k hd lv hv hx head recv (fun j => if j = i then v else PV j) i Wi.heap.size gp plen v me pa Ps := by
  have hb := (hB.grow (h3.trans hq)).parent L i v
  have hlp := L.lay.lp
  have hbs := hB.bsz
  have c0 := (hq.cell (World.block_lt_of_cell? W3 _ a0) (fun h => h)).trans a0
  have c1 := (hq.cell (World.block_lt_of_cell? W3 _ a1) (fun h => h)).trans a1
  refine ⟨hb, by simp, ?_, ?_, fun t ht => ?_, by omega, by omega, fun b hb => ?_⟩
  · rw [World.cell?_setCell_far _ _ _ _ (by dsimp only; omega)]; exact c0
  · rw [World.cell?_setCell_far _ _ _ _ (by dsimp only; omega)]; exact c1
  · rw [World.cell?_setCell_far _ _ _ _ (by dsimp only; omega)]; exact hgc t ht
  · have hl := (hB.sim.own b hb).lt
    exact ⟨fun e => by have := hl _ e; omega, fun e => by have := hl _ e; omega⟩

/-- the members behind one member's turn -/
theorem mems_step {m k n b plen : Nat} {Ps : Nat → Nat} {hd lv : Nat → Int} {hx hx' : Nat → List Nat} {head recv : Nat → Bool} (hb : b < m) (hn : n < k) (hP : ∀ s, s < plen → Ps s < k)
    (h : ∀ c, c < m → Mem m k c hd (lv c) (hx c) head recv (if c < b then n + 1 else n)) (h1 : ∀ c, c ≠ b → hx' c = hx c)
    (h2 : hx' b = recvHx m b n (fun x => if x = n * m + b then (n : Int) else (dropN m b Ps plen (hd, lv b)).1 x) ((dropN m b Ps plen (hd, lv b)).2 + 1) (hx b)) :
    ∀ c, c < m → Mem m k c (fun x => if x = n * m + b then (n : Int) else (dropN m b Ps plen (hd, lv b)).1 x) ((fun x => if x = b then (dropN m b Ps plen (hd, lv b)).2 + 1 else lv x) c) (hx' c)
      (fun x => if x = n * m + b then true else headDrop m b Ps plen head x) (fun x => if x = n * m + b then true else recv x) (if c < b + 1 then n + 1 else n) := by
  intro c hc
  by_cases e : c = b
  · subst e
    have h0 := h c hc
    rw [if_neg (by omega)] at h0
    rw [if_pos (by omega)]
    simp only [if_true]
    rw [h2]
    exact mem_recv hb hn hP h0
  · have h0 := h c hc
    simp only [if_neg e]
    rw [h1 c e]
    have e3 : (if c < b + 1 then n + 1 else n) = (if c < b then n + 1 else n) := by
      by_cases e4 : c < b
      · rw [if_pos e4, if_pos (by omega)]
      · rw [if_neg e4, if_neg (by omega)]
    rw [e3]
    exact mem_other hb hc e h0
/-- .. and where the member is passed over -/
theorem mems_skip {m k n b : Nat} {hd lv : Nat → Int} {hx : Nat → List Nat} {head recv : Nat → Bool} (h : ∀ c, c < m → Mem m k c hd (lv c) (hx c) head recv (if c < b then n + 1 else n)) :
    ∀ c, c < m → Mem m k c hd (lv c) (hx c) head recv (if c < b + 1 then n + 1 else n) := by
  intro c hc
  have h0 := h c hc
  by_cases e4 : c < b
  · rw [if_pos e4] at h0; rw [if_pos (by omega)]; exact h0
  · rw [if_neg e4] at h0
    by_cases e5 : c = b
    · rw [if_pos (by omega)]; exact h0.later1
    · rw [if_neg (by omega)]; exact h0
/-- bounds that receive wants -/
theorem Mem.bounds {m k b n : Nat} {hd : Nat → Int} {lv : Int} {l : List Nat} {head recv : Nat → Bool} (h : Mem m k b hd lv l head recv n) (hn : n < k) (hk : k ≤ 300) : -1000 ≤ lv ∧ lv ≤ 1000 ∧ l.length < 300 ∧ ∀ x ∈ l, x < k := by
  have h1 := cnt_le (fun i => head (i * m + b)) k
  have h2 := h.lv_eq
  have h3 := nodup_le (f := fun _ => true) (k := n) l h.nodup (fun x hx => ⟨(h.lt x hx).1, rfl⟩)
  rw [cnt_all] at h3
  exact ⟨by omega, by omega, by omega, fun x hx => by have := (h.lt x hx).1; omega⟩

/-- at the start every member holds nothing -/
theorem mem_start (m k b : Nat) : Mem m k b (fun _ => -1) 0 [] (fun _ => false) (fun _ => false) 0 := by
  have h0 : ∀ k, cnt (fun _ => false) k = 0 := by
    intro k
    induction k with
    | zero => rfl
    | succ k ih => simp [cnt, ih]
  refine ⟨?_, ?_, List.nodup_nil, ?_, ?_, ?_, ?_⟩
  · intro i _; simp
  · rw [h0]; rfl
  · intro h hh; cases hh
  · intro i _ h; cases h
  · simp
  · intro i _; rfl
end Go.Proofs.Ybulkcqyu
