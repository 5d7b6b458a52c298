/-
  chunks.add (23), walked.
-/
import Derived.Test.YbulkcqyuCLeaf
import Derived.Deep.Cut
namespace Go.Proofs.Ybulkcqyu
set_option linter.unusedVariables false
set_option linter.unusedSimpArgs false
open Go.RowKit Go.Deep

theorem Yba.info84 : (Yba.prog.info? 84).map (fun i => (i.zero, i.size, i.bytes)) = some (some (.pointer none), 1, 8) := by kernel_rfl

/-- .. what add comes to in the end: the node's four cells, and the count -/
theorem add_end {W : World} {base b N fx ll : Nat} {nd : Nat → Nat → Nat} {lv : Value} {cb : Nat → Nat} (v0 v1 v2 v3 : Nat) (hs : St W base b N fx nd lv ll cb) (hN : N < ll * 4096) :
    St (((((W.setCell ⟨cb (N / 4096), N % 4096 * 4, none⟩ (.int .u32 v0)).setCell ⟨cb (N / 4096), N % 4096 * 4 + 1, none⟩ (.int .u32 v1)).setCell ⟨cb (N / 4096), N % 4096 * 4 + 2, none⟩ (.int .u32 v2)).setCell ⟨cb (N / 4096), N % 4096 * 4 + 3, none⟩ (.int .u32 v3)).setCell ⟨b, 1, none⟩ (.int .u32 ((N + 1 : Nat) : Int)))
      base b (N + 1) fx (fun i j => if i = N then (if j = 0 then v0 else if j = 1 then v1 else if j = 2 then v2 else v3) else nd i j) lv ll cb := by
  have h := ((((hs.set hN (j := 0) (by omega) v0).set hN (j := 1) (by omega) v1).set hN (j := 2) (by omega) v2).set hN (j := 3) (by omega) v3).bump hN
  refine h.congr (fun i _ j hj => ?_)
  by_cases e : i = N
  · subst e
    rcases (by omega : j = 0 ∨ j = 1 ∨ j = 2 ∨ j = 3) with rfl | rfl | rfl | rfl <;> simp
  · simp [e]

/-- an alloc by its run -/
theorem wpList_alloc_run {P : Program} (w : World) {ops : Array Oper} {rest : List Oper} {o : Oper} {a : Act} {Q : Exit → Act → World → Prop} (hg : o.guard = none) (t : TypeId) (hop : o.op = Op.alloc t) (v : Value) (w' : World)
    (hrun : (Instr.alloc t true (.tuple #[])).run P w = .ok v w') (hK : wpList P ops Q rest (a.put o.dst v) w') : wpList P ops Q (o :: rest) a w := by
  refine wpList_plain hg fun K hK' => ?_
  unfold Oper.wp execOp
  simp only [hop, Sem.run_bind, hrun, Result.andThen_ok, Sem.run_pure, Oper.upon]
  exact hK' _ _ hK

theorem ownsRow_slice {w : World} {base : Nat} {e : TypeId} {v : Value} {n : Nat} {xs : List Value} (h : w.ownsRow base e 1 v n xs) : ∃ ao c, v = .slice ao n c := by
  rcases h.2 with ⟨h1, h2⟩ | ⟨g, cap, cur, hv, _⟩
  · exact ⟨none, 0, by rw [h1, h2]⟩
  · exact ⟨_, _, hv⟩

theorem add_chg {w W : World} {b N ll cbk off : Nat} {lv : Value} {cb : Nat → Nat} {S : Nat → Prop} (hc : Chg S w W) (h1 : cbk < w.heap.size → S cbk) (h2 : b < w.heap.size → S b) (v0 v1 v2 v3 v4 : Value) :
    Chg S w (((((W.setCell ⟨cbk, off, none⟩ v0).setCell ⟨cbk, off + 1, none⟩ v1).setCell ⟨cbk, off + 2, none⟩ v2).setCell ⟨cbk, off + 3, none⟩ v3).setCell ⟨b, 1, none⟩ v4).drew :=
  (((((hc.setCell (by exact h1) _).setCell (by exact h1) _).setCell (by exact h1) _).setCell (by exact h1) _).setCell (by exact h2) _).drew

set_option maxHeartbeats 1000000 in
/-- there is room in the last chunk -/
theorem add_room {base b N fx ll : Nat} {nd : Nat → Nat → Nat} {lv : Value} {cb : Nat → Nat} (v0 v1 v2 v3 : Nat) (w : World) (h : Hid (St w base b N fx nd lv ll cb)) (hN : N < ll * 4096) (hl : ll ≤ 100) :
    Calls Yba.prog 23 #[.pointer (some ⟨b, 0, none⟩), .agg #[.int .u32 v0, .int .u32 v1, .int .u32 v2, .int .u32 v3]] w fun e w' => e = .returned (.int .u32 N) ∧
      St w' base b (N + 1) fx (fun i j => if i = N then (if j = 0 then v0 else if j = 1 then v1 else if j = 2 then v2 else v3) else nd i j) lv ll cb ∧ Chg (Foot b lv ll cb) w w' := by
  have hq : N / 4096 < ll := by omega
  obtain ⟨ao, lc, rfl⟩ := ownsRow_slice h.out.own
  have c0 := h.out.rb.cell (i := 0) (by omega)
  have c2 := h.out.rb.cell (i := 1) (by omega)
  simp at c0 c2
  have lb := h.out.rb.lt
  have hne : ((N : Int) / 4096 == (ll : Int)) = false := by rw [beq_eq_false_iff_ne]; omega
  go_enter Yba.func23, Yba.ntmps23
  go_wp2_with fail
  go_quiet (fail)
  go_wp2_with fail
  clear c0 c2 hne
  obtain ⟨W, hW⟩ : ∃ W, W = (w.alloc (.cells #[.int .u32 v0, .int .u32 v1, .int .u32 v2, .int .u32 v3] 68)).drewN nq := ⟨_, rfl⟩
  have hcW : Chg (fun _ => False) w W := by rw [hW]; exact ((Chg.refl _ _).alloc _).drewN _
  have d0 : W.cell? ⟨w.heap.size, 0, none⟩ = some (.int .u32 v0) := by rw [hW]; simp [go_sem]
  have d1 : W.cell? ⟨w.heap.size, 1, none⟩ = some (.int .u32 v1) := by rw [hW]; simp [go_sem]
  have d2 : W.cell? ⟨w.heap.size, 2, none⟩ = some (.int .u32 v2) := by rw [hW]; simp [go_sem]
  have d3 : W.cell? ⟨w.heap.size, 3, none⟩ = some (.int .u32 v3) := by rw [hW]; simp [go_sem]
  have hs : St W base b N fx nd _ ll cb := h.out.keep hcW (fun _ x => x.elim)
  have hncb : cb (N / 4096) ≠ w.heap.size := by have := (h.out.chunk _ hq).lt; omega
  have HC : Hid (Chg (fun _ => False) w W) := hcW
  rw [← hW]
  clear hW hcW
  have hat := (show Hid _ from at_any N W.drew hs.drew hN hl)
  have g0 := hs.node hN (j := 0) (by omega)
  have g1 := hs.node hN (j := 1) (by omega)
  have g2 := hs.node hN (j := 2) (by omega)
  have g3 := hs.node hN (j := 3) (by omega)
  have fz := hs.nodeFrozen hN
  have p1 := hs.rb.cell (i := 1) (by omega)
  have pf1 := hs.rb.frozen 1
  simp at p1
  have ncb : cb (N / 4096) ≠ w.heap.size := hncb
  have ncb2 : cb (N / 4096) ≠ b := hs.nb _ (by omega)
  have HS : Hid (St W base b N fx nd _ ll cb) := hs
  clear hs
  have fz0 := fz (N % 4096 * 4)
  have fz1 := fz (N % 4096 * 4 + 1)
  have fz2 := fz (N % 4096 * 4 + 2)
  have fz3 := fz (N % 4096 * 4 + 3)
  clear fz hncb
  have HF : Hid (cb (N / 4096) = cb (N / 4096)) := rfl
  generalize hcbk : cb (N / 4096) = cbk at *
  have HK : Hid (cb (N / 4096) = cbk) := hcbk
  generalize hoff : N % 4096 * 4 = off at *
  have HO : Hid (N % 4096 * 4 = off) := hoff
  clear hcbk hoff HF
  have g0' : W.cell? ⟨cbk, off, none⟩ = some (.int .u32 ((nd N 0 : Nat) : Int)) := g0
  have g2' : W.cell? ⟨cbk, off + 1 + 1, none⟩ = some (.int .u32 ((nd N 2 : Nat) : Int)) := g2
  have g3' : W.cell? ⟨cbk, off + 1 + 1 + 1, none⟩ = some (.int .u32 ((nd N 3 : Nat) : Int)) := g3
  have fz2' : W.frozen? ⟨cbk, off + 1 + 1, none⟩ = false := fz2
  have fz3' : W.frozen? ⟨cbk, off + 1 + 1 + 1, none⟩ = false := fz3
  clear g0
  go_wp2_with fail
  go_region_held3 (fun w' => w'.cell? ⟨w.heap.size, 0, none⟩ = some (.int .u32 v0) ∧ w'.cell? ⟨w.heap.size, 1, none⟩ = some (.int .u32 v1) ∧ w'.cell? ⟨w.heap.size, 2, none⟩ = some (.int .u32 v2) ∧ w'.cell? ⟨w.heap.size, 3, none⟩ = some (.int .u32 v3)) (go_keep) ((go_at_call 28; refine Calls.mono hat.out ?_; rintro e w' ⟨rfl, rfl⟩))
  go_wp2_with fail
  go_ret
  refine ⟨rfl, ?_, ?_⟩
  · have := add_end v0 v1 v2 v3 HS.out hN
    rw [HK.out, HO.out] at this
    exact this.drew
  · refine add_chg (N := N) (ll := ll) (lv := .nilFunc) (cb := cb) (HC.out.mono (fun _ x => x.elim)) (fun _ => .inr (.inr ⟨N / 4096, hq, HK.out.symm⟩)) (fun _ => .inl rfl) _ _ _ _ _

set_option maxHeartbeats 1000000 in
/-- the last chunk is full: a new one is laid -/
theorem add_grow {base b N fx ll0 : Nat} {nd0 : Nat → Nat → Nat} {lv0 : Value} {cb0 : Nat → Nat} (v0 v1 v2 v3 : Nat) (w : World) (h : Hid (St w base b N fx nd0 lv0 ll0 cb0)) (hN0 : N = ll0 * 4096) (hl0 : ll0 < 100) (hbase : base ≤ w.heap.size) :
    Calls Yba.prog 23 #[.pointer (some ⟨b, 0, none⟩), .agg #[.int .u32 v0, .int .u32 v1, .int .u32 v2, .int .u32 v3]] w fun e w' => e = .returned (.int .u32 N) ∧
      ∃ (nd : Nat → Nat → Nat) (lv : Value) (ll : Nat) (cb : Nat → Nat), ll = ll0 + 1 ∧ (∀ i, i < N → ∀ j, nd i j = nd0 i j) ∧ St w' base b (N + 1) fx (fun i j => if i = N then (if j = 0 then v0 else if j = 1 then v1 else if j = 2 then v2 else v3) else nd i j) lv ll cb ∧ Chg (Foot b lv0 ll0 cb0) w w' ∧ (∀ x, Foot b lv ll cb x → Foot b lv0 ll0 cb0 x ∨ w.heap.size ≤ x) := by
  obtain ⟨ao, lc, rfl⟩ := ownsRow_slice h.out.own
  have c0 := h.out.rb.cell (i := 0) (by omega)
  have c2 := h.out.rb.cell (i := 1) (by omega)
  have f0 := h.out.rb.frozen 0
  simp at c0 c2
  have lb := h.out.rb.lt
  have hne : ((N : Int) / 4096 == (ll0 : Int)) = true := by rw [beq_iff_eq]; omega
  obtain ⟨Z, hal, hrz⟩ := al85
  have HRZ : Hid (∀ w : World, (w.alloc (.cells Z 85)).rowIs w.heap.size 85 16384 (fun _ => .int .u32 0)) := hrz
  clear hrz
  obtain ⟨i0, hi0, hz0, hz1, hz2⟩ := info_parts Yba.info84
  have HN0 : Hid (N = ll0 * 4096) := hN0
  have hNb : N ≤ 409600 := by omega
  clear hN0
  go_enter Yba.func23, Yba.ntmps23
  go_wp2_with fail
  go_quiet (fail)
  obtain ⟨W, hW⟩ : ∃ W, W = (w.alloc (.cells #[.int .u32 v0, .int .u32 v1, .int .u32 v2, .int .u32 v3] 68)).drewN nq := ⟨_, rfl⟩
  have hcW : Chg (fun _ => False) w W := by rw [hW]; exact ((Chg.refl _ _).alloc _).drewN _
  have d0 : W.cell? ⟨w.heap.size, 0, none⟩ = some (.int .u32 v0) := by rw [hW]; simp [go_sem]
  have d1 : W.cell? ⟨w.heap.size, 1, none⟩ = some (.int .u32 v1) := by rw [hW]; simp [go_sem]
  have d2 : W.cell? ⟨w.heap.size, 2, none⟩ = some (.int .u32 v2) := by rw [hW]; simp [go_sem]
  have d3 : W.cell? ⟨w.heap.size, 3, none⟩ = some (.int .u32 v3) := by rw [hW]; simp [go_sem]
  have hs0 : St W base b N fx nd0 _ ll0 cb0 := h.out.keep hcW (fun _ x => x.elim)
  have szW : w.heap.size + 1 = W.heap.size := by rw [hW]; simp
  have e0 := hs0.rb.cell (i := 0) (by omega)
  have ef0 := hs0.rb.frozen 0
  simp only [if_true] at e0
  have HS0 : Hid (St W base b N fx nd0 (.slice ao ll0 lc) ll0 cb0) := hs0
  have HC : Hid (Chg (fun _ => False) w W) := hcW
  rw [← hW]
  clear hW hcW hs0 c0 c2 f0
  go_wp2_with (first | (with_reducible refine wpList_alloc_run _ rfl 85 rfl _ _ (hal _) ?_) | (at_builtin; refine wpList_append_lies _ rfl (.tmp 22) (.tmp 24) 46 rfl base 84 i0 (.pointer none) 1 8 Yba.underlying46 hi0 hz0 hz1 hz2 rfl (by decide) (.slice ao ll0 lc) ll0 (ptrs cb0 ll0) rfl ((HS0.out.own.alloc _).alloc _) ⟨W.heap.size + 1, 0, none⟩ 1 1 [.pointer (some ⟨W.heap.size, 0, none⟩)] rfl rfl ?c1 ?c2 (by decide) ?c3 ?c4 ?c5 (W.heap.size + 1 + 1) ?c6 ?_))
  case c1 =>
    have hb := blk_alloc_new (W.alloc (.cells Z 85)) (.cells #[.pointer (some ⟨W.heap.size, 0, none⟩)] 84)
    rw [nblk_alloc] at hb
    exact World.news_of_block hb
  case c2 => intro u hu; simp at hu; rw [hu]; rfl
  case c3 => unfold maxLen; omega
  case c4 => omega
  case c5 => rw [nblk_alloc, nblk_alloc]; omega
  case c6 => rw [nblk_alloc, nblk_alloc]
  intro g cap W5 hown hgrow hat0 hlt
  have hcZ : Chg (fun _ => False) W ((W.alloc (.cells Z 85)).alloc (.cells #[.pointer (some ⟨W.heap.size, 0, none⟩)] 84)) := ((Chg.refl _ _).alloc _).alloc _
  have hrk : ((W.alloc (.cells Z 85)).alloc (.cells #[.pointer (some ⟨W.heap.size, 0, none⟩)] 84)).rowIs W.heap.size 85 16384 (fun _ => .int .u32 0) := (HRZ.out W).alloc _
  have hg5 : Chg (fun x => (Value.slice ao ll0 lc).ownBlock = some x) ((W.alloc (.cells Z 85)).alloc (.cells #[.pointer (some ⟨W.heap.size, 0, none⟩)] 84)) W5 := (Chg.refl _ _).grown hgrow (fun x hx _ => hx)
  have hs6 := HS0.out.chunkMore hcZ W.heap.size (Nat.le_refl _) (by rw [nblk_alloc, nblk_alloc]; omega) hrk (by omega) hown hg5 (by rcases hat0 with e | e; exact .inl e; exact .inr (by rw [nblk_alloc, nblk_alloc]; omega))
  have rb5 : W5.rowIs b 51 3 _ := hg5.row (hcZ.row HS0.out.rb (fun h => h)) HS0.out.nlb
  have e05 := rb5.cell (i := 0) (by omega)
  have ef05 := rb5.frozen 0
  simp only [if_true] at e05
  have hc5 : Chg (Foot b (.slice ao ll0 lc) ll0 cb0) W W5 := (hcZ.mono (fun _ x => x.elim)).trans (hg5.mono (fun x hx => .inr (.inl hx)))
  have hc6 := hc5.setCell (p := ⟨b, 0, none⟩) (fun _ => .inl rfl) (.slice (some ⟨g, 0, none⟩) (ll0 + 1) cap)
  have hft : ∀ x, Foot b (.slice (some ⟨g, 0, none⟩) (ll0 + 1) cap) (ll0 + 1) (fun q => if q < ll0 then cb0 q else W.heap.size) x → Foot b (.slice ao ll0 lc) ll0 cb0 x ∨ w.heap.size ≤ x := by
    intro x hx
    rcases hx with e | e | ⟨q, hq, e⟩
    · exact .inl (.inl e)
    · simp only [Value.ownBlock, Option.some.injEq] at e
      rcases hat0 with e' | e'
      · exact .inl (.inr (.inl (by rw [e', e])))
      · exact .inr (by omega)
    · dsimp only at e
      by_cases hq' : q < ll0
      · rw [if_pos hq'] at e; exact .inl (.inr (.inr ⟨q, hq', e⟩))
      · rw [if_neg hq'] at e; exact .inr (by omega)
  have hN : N < (ll0 + 1) * 4096 := by have := HN0.out; omega
  have hl : ll0 + 1 ≤ 100 := by omega
  have hNq : N / 4096 = ll0 := by have := HN0.out; omega
  have hncb : (fun q => if q < ll0 then cb0 q else W.heap.size) (N / 4096) ≠ w.heap.size := by
    dsimp only; rw [if_neg (by omega)]; omega
  have hndq : ∀ i, i < N → ∀ j, (fun i j => if i < ll0 * 4096 then nd0 i j else 0) i j = nd0 i j := fun i hi j => if_pos (by have := HN0.out; omega)
  have hlw : ∀ p : Addr, p.block = w.heap.size → W.cell? p ≠ none → ¬ Foot b (.slice ao ll0 lc) ll0 cb0 p.block := by
    intro p hp _ hf
    have hh := h.out
    rcases hf with e | e | ⟨q, hq, e⟩
    · omega
    · have := (hh.own.lt _ e).2; omega
    · have := (hh.chunk q hq).lt; omega
  obtain ⟨W6, hW6⟩ : ∃ W6, W6 = W5.setCell ⟨b, 0, none⟩ (.slice (some ⟨g, 0, none⟩) (ll0 + 1) cap) := ⟨_, rfl⟩
  rw [← hW6] at hs6 hc6
  have d0 : W6.cell? ⟨w.heap.size, 0, none⟩ = some (.int .u32 v0) := by rw [hc6.cell (by dsimp only; omega) (hlw ⟨w.heap.size, 0, none⟩ rfl (by rw [d0]; simp))]; exact d0
  have d1 : W6.cell? ⟨w.heap.size, 1, none⟩ = some (.int .u32 v1) := by rw [hc6.cell (by dsimp only; omega) (hlw ⟨w.heap.size, 1, none⟩ rfl (by rw [d1]; simp))]; exact d1
  have d2 : W6.cell? ⟨w.heap.size, 2, none⟩ = some (.int .u32 v2) := by rw [hc6.cell (by dsimp only; omega) (hlw ⟨w.heap.size, 2, none⟩ rfl (by rw [d2]; simp))]; exact d2
  have d3 : W6.cell? ⟨w.heap.size, 3, none⟩ = some (.int .u32 v3) := by rw [hc6.cell (by dsimp only; omega) (hlw ⟨w.heap.size, 3, none⟩ rfl (by rw [d3]; simp))]; exact d3
  have HD : Hid ((∀ i, i < N → ∀ j, (fun i j => if i < ll0 * 4096 then nd0 i j else 0) i j = nd0 i j) ∧ Chg (Foot b (.slice ao ll0 lc) ll0 cb0) W W6 ∧ ∀ x, Foot b (.slice (some ⟨g, 0, none⟩) (ll0 + 1) cap) (ll0 + 1) (fun q => if q < ll0 then cb0 q else W.heap.size) x → Foot b (.slice ao ll0 lc) ll0 cb0 x ∨ w.heap.size ≤ x) := ⟨hndq, hc6, hft⟩
  have hs := hs6
  clear hs6 hndq hc6 hc5 hft hcZ hrk hg5 hown hgrow hat0 rb5 hlt HS0 hal HRZ hi0 hz0 hz1 hz2 e0 ef0 hlw
  generalize (fun i j => if i < ll0 * 4096 then nd0 i j else 0) = nd at hs HD
  generalize (fun q => if q < ll0 then cb0 q else W.heap.size) = cb at hs HD hncb
  generalize hlle : ll0 + 1 = ll at *
  have HLE : Hid (ll0 + 1 = ll) := hlle
  clear hlle
  go_upto_region 3 with fail
  rw [← hW6]
  clear hW6 e05 ef05 hne
  have hat := (show Hid _ from at_any N W6.drew hs.drew hN hl)
  have g0 := hs.node hN (j := 0) (by omega)
  have g1 := hs.node hN (j := 1) (by omega)
  have g2 := hs.node hN (j := 2) (by omega)
  have g3 := hs.node hN (j := 3) (by omega)
  have fz := hs.nodeFrozen hN
  have p1 := hs.rb.cell (i := 1) (by omega)
  have pf1 := hs.rb.frozen 1
  simp at p1
  have ncb : cb (N / 4096) ≠ w.heap.size := hncb
  have ncb2 : cb (N / 4096) ≠ b := hs.nb _ (by omega)
  have HS : Hid (St W6 base b N fx nd _ ll cb) := hs
  clear hs
  have fz0 := fz (N % 4096 * 4)
  have fz1 := fz (N % 4096 * 4 + 1)
  have fz2 := fz (N % 4096 * 4 + 2)
  have fz3 := fz (N % 4096 * 4 + 3)
  clear fz hncb
  have HF : Hid (cb (N / 4096) = cb (N / 4096)) := rfl
  generalize hcbk : cb (N / 4096) = cbk at *
  have HK : Hid (cb (N / 4096) = cbk) := hcbk
  generalize hoff : N % 4096 * 4 = off at *
  have HO : Hid (N % 4096 * 4 = off) := hoff
  clear hcbk hoff HF
  have g0' : W6.cell? ⟨cbk, off, none⟩ = some (.int .u32 ((nd N 0 : Nat) : Int)) := g0
  have g2' : W6.cell? ⟨cbk, off + 1 + 1, none⟩ = some (.int .u32 ((nd N 2 : Nat) : Int)) := g2
  have g3' : W6.cell? ⟨cbk, off + 1 + 1 + 1, none⟩ = some (.int .u32 ((nd N 3 : Nat) : Int)) := g3
  have fz2' : W6.frozen? ⟨cbk, off + 1 + 1, none⟩ = false := fz2
  have fz3' : W6.frozen? ⟨cbk, off + 1 + 1 + 1, none⟩ = false := fz3
  clear g0
  go_wp2_with fail
  go_region_held3 (fun w' => w'.cell? ⟨w.heap.size, 0, none⟩ = some (.int .u32 v0) ∧ w'.cell? ⟨w.heap.size, 1, none⟩ = some (.int .u32 v1) ∧ w'.cell? ⟨w.heap.size, 2, none⟩ = some (.int .u32 v2) ∧ w'.cell? ⟨w.heap.size, 3, none⟩ = some (.int .u32 v3)) (go_keep) ((go_at_call 28; refine Calls.mono hat.out ?_; rintro e w' ⟨rfl, rfl⟩))
  go_wp2_with fail
  go_ret
  refine ⟨rfl, nd, _, ll, cb, HLE.out.symm, HD.out.1, ?_, ?_, HD.out.2.2⟩
  · have := add_end v0 v1 v2 v3 HS.out hN
    rw [HK.out, HO.out] at this
    exact this.drew
  · refine add_chg (N := N) (ll := ll) (lv := .nilFunc) (cb := cb) (((HC.out.mono (fun _ x => x.elim)).trans HD.out.2.1)) (fun hlt => ?_) (fun _ => .inl rfl) _ _ _ _ _
    rcases HD.out.2.2 cbk (.inr (.inr ⟨N / 4096, by omega, HK.out.symm⟩)) with h1 | h1
    · exact h1
    · omega

/-- chunks.add -/
theorem add_any {base b N fx : Nat} {nd : Nat → Nat → Nat} {Fp : Nat → Prop} (v0 v1 v2 v3 : Nat) (w : World) (h : Str w base b N fx nd Fp) (hN : N ≤ 400000) :
    Calls Yba.prog 23 #[.pointer (some ⟨b, 0, none⟩), .agg #[.int .u32 v0, .int .u32 v1, .int .u32 v2, .int .u32 v3]] w fun e w' => e = .returned (.int .u32 N) ∧
      ∃ nd' Fp', Str w' base b (N + 1) fx nd' Fp' ∧ Step w w' Fp Fp' ∧ (∀ i, i < N → ∀ j, nd' i j = nd i j) ∧ nd' N 0 = v0 ∧ nd' N 1 = v1 ∧ nd' N 2 = v2 ∧ nd' N 3 = v3 := by
  obtain ⟨lv, ll, cb, hs, hf, hb, hll⟩ := h
  have hFF : ∀ {w' : World}, Chg (Foot b lv ll cb) w w' → Chg Fp w w' := fun hc => hc.mono (fun x hx => (hf x).2 hx)
  have hr := hs.room
  by_cases hlt : N < ll * 4096
  · refine (add_room v0 v1 v2 v3 w hs hlt (by omega)).mono ?_
    rintro e w' ⟨he, hs', hc⟩
    refine ⟨he, _, Fp, ⟨lv, ll, cb, hs', hf, Nat.le_trans hb hc.size, by omega⟩, ⟨hFF hc, fun x hx => .inl hx⟩, fun i hi j => if_neg (by omega), ?_, ?_, ?_, ?_⟩ <;> simp
  · refine (add_grow v0 v1 v2 v3 w hs (by omega) (by omega) hb).mono ?_
    rintro e w' ⟨he, nd', lv', ll', cb', rfl, hnd, hs', hc, hft⟩
    have h4 : ll * 4096 ≤ N + 1 := by omega
    have h5 : (ll + 1) * 4096 ≤ N + 1 + 4096 := by rw [Nat.succ_mul]; exact Nat.add_le_add_right h4 4096
    refine ⟨he, _, Foot b lv' (ll + 1) cb', ⟨lv', ll + 1, cb', hs', fun x => Iff.rfl, Nat.le_trans hb hc.size, h5⟩, ⟨hFF hc, fun x hx => by rcases hft x hx with h1 | h1; exact .inl ((hf x).2 h1); exact .inr h1⟩, fun i hi j => ?_, ?_, ?_, ?_, ?_⟩
    · rw [if_neg (by omega)]; exact hnd i hi j
    all_goals simp
end Go.Proofs.Ybulkcqyu
