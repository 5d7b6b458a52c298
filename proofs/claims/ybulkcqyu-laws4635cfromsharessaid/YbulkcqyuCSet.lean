/-
  clockStore.setNode (20), walked: by induction on the height.
-/
import Derived.Test.YbulkcqyuCRead
namespace Go.Proofs.Ybulkcqyu
set_option linter.unusedVariables false
set_option linter.unusedSimpArgs false
open Go.RowKit Go.Deep

/-- own, with what it does to the tree -/
theorem own_any {base b N fx : Nat} {nd : Nat → Nat → Nat} {Fp : Nat → Prop} {pos : Nat → Nat × Nat} {h p e : Nat} (w : World) (H : Str w base b N fx nd Fp) (hN : N ≤ 400000) (hf : fx ≤ N) (t : Tree nd N fx pos h p e) :
    Calls Yba.prog 26 #[.pointer (some ⟨b, 0, none⟩), .int .u32 e] w fun r w' => ∃ m : Nat, r = .returned (.int .u32 m) ∧ ∃ nd2 N2 pos2 Fp2, Hid (Str w' base b N2 fx nd2 Fp2) ∧ Step w w' Fp Fp2 ∧ OwnP nd N fx pos nd2 N2 pos2 h p e m := by
  by_cases hn : fx ≤ e
  · refine (own_new e w H hn).mono ?_
    rintro r w' ⟨rfl, rfl⟩
    exact ⟨e, rfl, nd, N, pos, Fp, H, Step.refl _ _, OwnP.keep t hn⟩
  · refine (own_old e w H (by omega) t.lt hN).mono ?_
    rintro r w' ⟨rfl, nd', Fp', h1, h2, h3, g0, g1, g2, g3⟩
    refine ⟨N, rfl, nd', N + 1, _, Fp', h1, h2, OwnP.made h p hf h3 (fun j hj => ?_)⟩
    rcases j with _ | _ | _ | _ | j
    · exact g0
    · exact g1
    · exact g2
    · exact g3
    · omega

/-- a node's handle -/
theorem Str.handle {w : World} {base b N fx : Nat} {nd : Nat → Nat → Nat} {Fp : Nat → Prop} (H : Str w base b N fx nd Fp) {m : Nat} (hm : m < N) (hN : N ≤ 400000) : ∃ cbk off, Fp cbk ∧
    (∀ k, Calls Yba.prog 24 #[.pointer (some ⟨b, 0, none⟩), .int .u32 m] (w.drewN k) fun e w' => e = .returned (.pointer (some ⟨cbk, off, none⟩)) ∧ w' = w.drewN k) ∧
    (∀ j, j < 4 → w.cell? ⟨cbk, off + j, none⟩ = some (.int .u32 ((nd m j : Nat) : Int))) ∧ (∀ o, w.frozen? ⟨cbk, o, none⟩ = false) ∧
    ∀ j, j < 4 → ∀ v : Nat, Str (w.setCell ⟨cbk, off + j, none⟩ (.int .u32 ((v : Nat) : Int))) base b N fx (upd nd m j v) Fp := by
  obtain ⟨lv, ll, cb, hs, hf, hb, hll⟩ := H
  have hroom := hs.room
  have hq : m / 4096 < ll := by omega
  refine ⟨cb (m / 4096), m % 4096 * 4, (hf _).2 (.inr (.inr ⟨_, hq, rfl⟩)), fun k => node_any m (w.drewN k) (hs.drewN k) (by omega) (by omega), fun j hj => hs.node (by omega) hj, hs.nodeFrozen (by omega), fun j hj v => ⟨lv, ll, cb, hs.set (by omega) hj v, hf, ?_, hll⟩⟩
  have : (w.setCell ⟨cb (m / 4096), m % 4096 * 4 + j, none⟩ (.int .u32 ((v : Nat) : Int))).heap.size = w.heap.size := by simp
  rw [this]; exact hb

/-- where the way to c has no node, nodeAt has none -/
def Zp (nd : Nat → Nat → Nat) (naf : Nat → Nat) (c : Nat) : Nat → Nat → Prop
  | 0, n => n = 0 → naf 0 = 0
  | h + 1, n => (n = 0 → naf (h + 1) = 0) ∧ Zp nd naf c h (nd n (dig c (h + 1)))
theorem Zp.top {nd : Nat → Nat → Nat} {naf : Nat → Nat} {c h : Nat} (z : Zp nd naf c h 0) : naf h = 0 := by
  cases h with
  | zero => exact z rfl
  | succ h => exact z.1 rfl
theorem Zp.move {nd nd' : Nat → Nat → Nat} {naf : Nat → Nat} {c N : Nat} (hN : 0 < N) (zr : Zero nd) (e : ∀ i, i < N → ∀ j, nd' i j = nd i j) : ∀ {h n : Nat}, Wf nd N h n → Zp nd naf c h n → Zp nd' naf c h n
  | 0, n, w, z => z
  | h + 1, n, w, z => by
    refine ⟨z.1, ?_⟩
    rw [e n w.1]
    refine Zp.move hN zr e ?_ z.2
    by_cases hn : n = 0
    · subst hn; rw [zr]; exact rd_wf0 hN _
    · exact w.kid hn (dig_lt _ _)

def SetPost (w w' : World) (base b N fx : Nat) (nd : Nat → Nat → Nat) (Fp : Nat → Prop) (pos : Nat → Nat × Nat) (h c n place r : Nat) : Prop :=
  ∃ nd' N' pos' Fp', Str w' base b N' fx nd' Fp' ∧ Step w w' Fp Fp' ∧ SetP nd N fx pos nd' N' pos' h c n place r

/-- setNode's contract -/
def SetOk (base b fx rf hf c place h : Nat) : Prop := ∀ (w : World) (N : Nat) (nd : Nat → Nat → Nat) (pos : Nat → Nat × Nat) (Fp : Nat → Prop) (n : Nat), Str w base b N fx nd Fp → Zero nd → fx ≤ N → N + h < 400000 → Tree nd N fx pos h (c / 4 ^ (h + 1)) n → Wf nd fx hf rf → Zp nd (na nd rf hf c) c h n →
  Calls Yba.prog 20 #[.pointer (some ⟨b, 0, none⟩), .int .u32 n, .agg #[.int .u32 rf, .int .i32 hf], .int .i32 h, .int .i32 c, .int .u32 place] w fun e w' => ∃ r : Nat, e = .returned (.int .u32 r) ∧ SetPost w w' base b N fx nd Fp pos h c n place r

set_option maxHeartbeats 2000000 in
theorem setNode_step {base b fx rf hf c place h : Nat} (hh : h ≤ 10) (hhf : hf ≤ 10) (hc : c ≤ 255) (hfx : 0 < fx) (IH : Hid (0 < h → SetOk base b fx rf hf c place (h - 1))) (w : World) (N : Nat) (nd : Nat → Nat → Nat) (pos : Nat → Nat × Nat) (Fp : Nat → Prop) (n e : Nat)
    (H : Hid (Str w base b N fx nd Fp)) (z : Zero nd) (hfN : fx ≤ N) (hN : N + h < 400000) (t : Tree nd N fx pos h (c / 4 ^ (h + 1)) e) (wf : Wf nd fx hf rf) (hz : 0 < h → Zp nd (na nd rf hf c) c (h - 1) (nd e (dig c h)))
    (hcase : (n ≠ 0 ∧ e = n) ∨ (n = 0 ∧ e = na nd rf hf c h ∧ rd nd h e c < place)) :
    Calls Yba.prog 20 #[.pointer (some ⟨b, 0, none⟩), .int .u32 n, .agg #[.int .u32 rf, .int .i32 hf], .int .i32 h, .int .i32 c, .int .u32 place] w fun r w' => ∃ m : Nat, r = .returned (.int .u32 m) ∧ SetPost w w' base b N fx nd Fp pos h c e place m := by
  have hb1 : Hid (Chg (fun _ => False) w (w.alloc (.cells #[.int .u32 rf, .int .i32 hf] 55))) := (Chg.refl _ _).alloc _
  have hown := (show Hid (∀ ws, Chg (fun _ => False) w ws → _) from fun ws hc => own_any ws (H.out.grow hc) (by omega) hfN t)
  obtain ⟨d, hd, hd4, hw2, hmask, hmask'⟩ := digs c h hc hh
  have HD : Hid (d = dig c h) := hd
  clear hd
  have hna := (show Hid _ from nodeAt_any rf hf h c (w.alloc (.cells #[.int .u32 rf, .int .i32 hf] 55)) (H.out.grow hb1.out) (by omega) hh hhf hc (wf.mono hfN))
  have hpl := (show Hid (∀ ws, Chg (fun _ => False) w ws → _) from fun ws hk => place_any e h c ws (H.out.grow hk) (by omega) hh hc t.wf)
  have hwlt : Hid (∀ x, Fp x → x < w.heap.size) := fun x hx => H.out.lt hx
  -- up to own
  go_enter Yba.func20, Yba.ntmps20
  rcases hcase with ⟨hn0, rfl⟩ | ⟨rfl, he, hlt⟩
  -- a node there
  have hb : ((e : Int) == 0) = false := by simp; omega
  have HK := hb1
  clear hna hpl
  go_wp2_with fail
  obtain ⟨c0, c1⟩ : (w.alloc (.cells #[.int .u32 rf, .int .i32 hf] 55)).cell? ⟨w.heap.size, 0, none⟩ = some (.int .u32 rf) ∧ (w.alloc (.cells #[.int .u32 rf, .int .i32 hf] 55)).cell? ⟨w.heap.size, 1, none⟩ = some (.int .i32 hf) := by constructor <;> simp [go_sem]
  have hsz : w.heap.size < (w.alloc (.cells #[.int .u32 rf, .int .i32 hf] 55)).heap.size := by simp
  generalize w.alloc (.cells #[.int .u32 rf, .int .i32 hf] 55) = ws at HK c0 c1 hsz ⊢
  clear hb1
  rotate_left
  -- none there
  rw [← he] at hna
  clear he
  have hd1 : ¬ place ≤ rd nd h e c := by omega
  clear hlt
  generalize rd nd h e c = pl at hpl hd1
  go_wp2_with fail
  refine Calls.mono hna.out ?_
  rintro r w1 ⟨rfl, hk⟩
  have c0 : w1.cell? ⟨w.heap.size, 0, none⟩ = some (.int .u32 rf) := by rw [hk.cell (by simp) (fun x => x)]; simp [go_sem]
  have c1 : w1.cell? ⟨w.heap.size, 1, none⟩ = some (.int .i32 hf) := by rw [hk.cell (by simp) (fun x => x)]; simp [go_sem]
  have hsz : w.heap.size < w1.heap.size := Nat.lt_of_lt_of_le (by simp) hk.size
  have HK : Hid (Chg (fun _ => False) w w1) := hb1.out.trans hk
  clear hk hb1 hna
  go_wp2_with fail
  refine Calls.mono (hpl.out w1 HK.out) ?_
  rintro r w1' ⟨rfl, k, rfl⟩
  have HK' : Hid (Chg (fun _ => False) w (w1.drewN k)) := HK.out.drewN k
  have c0' : (w1.drewN k).cell? ⟨w.heap.size, 0, none⟩ = some (.int .u32 rf) := c0
  have c1' : (w1.drewN k).cell? ⟨w.heap.size, 1, none⟩ = some (.int .i32 hf) := c1
  have hsz' : w.heap.size < (w1.drewN k).heap.size := hsz
  clear HK c0 c1 hsz hpl
  generalize w1.drewN k = ws at HK' c0' c1' hsz' ⊢
  clear w1
  rename Hid (Chg _ _ _) => HK
  rename (ws.cell? ⟨w.heap.size, 0, none⟩ = _) => c0
  rename (ws.cell? ⟨w.heap.size, 1, none⟩ = _) => c1
  rename (w.heap.size < ws.heap.size) => hsz
  go_wp2_with fail
  -- from own on
  all_goals
    refine Calls.mono (hown.out ws HK.out) ?_
    rintro r w2 ⟨m, rfl, nd2, N2, pos2, Fp2, H2, hst, ho⟩
    have hlo := ho.le
    have hl1 := ho.le1
    obtain ⟨cbk, off, hfp, hnode, hcells, hfroz, hset⟩ := H2.out.handle (m := m) ho.lt (by omega)
    have HN : Hid (∀ k, Calls Yba.prog 24 #[.pointer (some ⟨b, 0, none⟩), .int .u32 m] (w2.drewN k) fun e w' => e = .returned (.pointer (some ⟨cbk, off, none⟩)) ∧ w' = w2.drewN k) := hnode
    have g := hcells d hd4
    have gf := hfroz (off + d)
    have HSet := (show Hid (∀ v : Nat, _) from hset d hd4)
    have b0 : w2.cell? ⟨w.heap.size, 0, none⟩ = some (.int .u32 rf) := by rw [hst.1.cell hsz (fun hx => Nat.lt_irrefl _ (hwlt.out _ hx))]; exact c0
    have b1 : w2.cell? ⟨w.heap.size, 1, none⟩ = some (.int .i32 hf) := by rw [hst.1.cell hsz (fun hx => Nat.lt_irrefl _ (hwlt.out _ hx))]; exact c1
    have HO : Hid (Step ws w2 Fp Fp2) := hst
    have HP : Hid (OwnP nd N fx pos nd2 N2 pos2 h (c / 4 ^ (h + 1)) e m) := ho
    clear hst ho hnode hcells hfroz hset c0 c1 hown
    rcases Nat.eq_zero_or_pos h with h0 | h0
    · have hb0 : ((h : Int) == 0) = true := by simp; omega
      have H0 : Hid (h = 0) := h0
      clear h0
      go_wp2_with fail
      refine Calls.mono (HN.out 0) ?_
      rintro r w' ⟨rfl, rfl⟩
      go_wp2_with fail
      go_ret
      have e0 := H0.out
      subst e0
      refine ⟨m, rfl, _, _, pos2, _, HSet.out place, ?_, by rw [HD.out]; exact SetP.leaf place t HP.out⟩
      exact (HO.out.after HK.out).trans ⟨(Chg.refl _ _).setCell (p := ⟨cbk, off + d, none⟩) (fun _ => hfp) _, fun x hx => .inl hx⟩
    · have hb0 : ((h : Int) == 0) = false := by simp; omega
      have HR : Hid (Calls Yba.prog 20 #[.pointer (some ⟨b, 0, none⟩), .int .u32 (nd2 m d : Nat), .agg #[.int .u32 rf, .int .i32 hf], .int .i32 ((h : Int) - 1), .int .i32 c, .int .u32 place] w2.drew fun e w' => ∃ r : Nat, e = .returned (.int .u32 r) ∧ SetPost w2.drew w' base b N2 fx nd2 Fp2 pos2 (h - 1) c (nd2 m d) place r) := by
        have hk := HP.out.copy d hd4
        have hH2 := H2.out.drew
        have hz2 := HP.out.zero z (by omega)
        have h3 := IH.out h0 w2.drew N2 nd2 pos2 Fp2 (nd2 m d) hH2 hz2 (by omega) (by omega)
        obtain ⟨h', rfl⟩ : ∃ k, h = k + 1 := ⟨h - 1, by omega⟩
        have e : ((h' + 1 : Nat) : Int) - 1 = ((h' : Nat) : Int) := by omega
        rw [e]
        simp only [Nat.add_sub_cancel] at h3 hz ⊢
        have hsm : ∀ i, i < fx → ∀ j, nd2 i j = nd i j := fun i hi => HP.out.same i (by omega)
        refine h3 ?_ (wf.move hfx hsm).1 ?_
        · rw [hk, ← path_kid, HD.out]; exact (HP.out.child z hfx hfN t (dig_lt _ _)).1
        · have hnaf : na nd2 rf hf c = na nd rf hf c := funext (fun k => na_move c k hsm wf)
          rw [hnaf, hk, HD.out]
          refine Zp.move (N := N) (by omega) z HP.out.same ?_ (hz (by omega))
          exact (t.kid' z hfx hfN (dig_lt _ _)).wf
      go_wp2_with fail
      go_region_with (first
        | (go_at_call 24; refine Calls.mono (HN.out 1) ?_; rintro e w' ⟨rfl, rfl⟩)
        | (go_at_call 20; refine Calls.mono HR.out ?_; rintro e w' ⟨kid, rfl, hpost⟩; have HQ : Hid (SetPost w2.drew w' base b N2 fx nd2 Fp2 pos2 (h - 1) c (nd2 m d) place kid) := hpost; clear hpost))
      all_goals
        obtain ⟨nd3, N3, pos3, Fp3, hstr3, hst3, hs3⟩ := HQ.out
        have hl3 := hs3.le1
        obtain ⟨cbk3, off3, hfp3, hnode3, hcells3, hfroz3, hset3⟩ := hstr3.handle (m := m) (Nat.lt_of_lt_of_le HP.out.lt hs3.le) (by omega)
        have HN3 : Hid (∀ k, Calls Yba.prog 24 #[.pointer (some ⟨b, 0, none⟩), .int .u32 m] (w'.drewN k) fun e w'' => e = .returned (.pointer (some ⟨cbk3, off3, none⟩)) ∧ w'' = w'.drewN k) := hnode3
        have g3 := hcells3 d hd4
        have gf3 := hfroz3 (off3 + d)
        have HS3 := (show Hid _ from hset3 d hd4 kid)
        have HT3 : Hid (Step w2.drew w' Fp2 Fp3) := hst3
        have HU3 : Hid (SetP nd2 N2 fx pos2 nd3 N3 pos3 (h - 1) c (nd2 m d) place kid) := hs3
        clear hnode3 hcells3 hfroz3 hset3 hstr3 hst3 hs3 g gf b0 b1
        go_wp2_with fail
        refine Calls.mono (HN3.out 0) ?_
        rintro r w'' ⟨rfl, rfl⟩
        go_wp2_with fail
        go_ret
        refine ⟨m, rfl, _, _, pos3, _, HS3.out, ?_, ?_⟩
        · refine ((HO.out.after HK.out).trans (Step.after ((Chg.refl _ _).drew) HT3.out)).trans ⟨(Chg.refl _ _).setCell (p := ⟨cbk3, off3 + d, none⟩) (fun _ => hfp3) _, fun x hx => .inl hx⟩
        · have hk := HP.out.copy d hd4
          have hU := HU3.out
          rw [hk] at hU
          obtain ⟨h', rfl⟩ : ∃ k, h = k + 1 := ⟨h - 1, by omega⟩
          rw [HD.out] at hU ⊢
          exact SetP.node z hfx hfN t HP.out hU

set_option maxHeartbeats 2000000 in
/-- nothing there, and the other clock's node holds the place, or a further one -/
theorem setNode_early {base b fx rf hf c place h : Nat} (hh : h ≤ 10) (hhf : hf ≤ 10) (hc : c ≤ 255) (hfx : 0 < fx) (w : World) (N : Nat) (nd : Nat → Nat → Nat) (Fp : Nat → Prop) (e : Nat)
    (H : Hid (Str w base b N fx nd Fp)) (hfN : fx ≤ N) (hN : N + h < 400000) (wf : Wf nd fx hf rf) (he : e = na nd rf hf c h) (hle : place ≤ rd nd h e c) :
    Calls Yba.prog 20 #[.pointer (some ⟨b, 0, none⟩), .int .u32 (0 : Nat), .agg #[.int .u32 rf, .int .i32 hf], .int .i32 h, .int .i32 c, .int .u32 place] w fun r w' => r = .returned (.int .u32 e) ∧ Chg (fun _ => False) w w' := by
  have hb1 : Hid (Chg (fun _ => False) w (w.alloc (.cells #[.int .u32 rf, .int .i32 hf] 55))) := (Chg.refl _ _).alloc _
  have hna := (show Hid _ from nodeAt_any rf hf h c (w.alloc (.cells #[.int .u32 rf, .int .i32 hf] 55)) (H.out.grow hb1.out) (by omega) hh hhf hc (wf.mono hfN))
  have hwe : Wf nd N h e := by rw [he]; exact (na_wf c h hfx wf).mono hfN
  have hpl := (show Hid (∀ ws, Chg (fun _ => False) w ws → _) from fun ws hk => place_any e h c ws (H.out.grow hk) (by omega) hh hc hwe)
  rw [← he] at hna
  clear he hwe
  generalize rd nd h e c = pl at hpl hle
  go_enter Yba.func20, Yba.ntmps20
  go_wp2_with fail
  refine Calls.mono hna.out ?_
  rintro r w1 ⟨rfl, hk⟩
  have HK : Hid (Chg (fun _ => False) w w1) := hb1.out.trans hk
  clear hk hb1 hna
  go_wp2_with fail
  refine Calls.mono (hpl.out w1 HK.out) ?_
  rintro r w1' ⟨rfl, k, rfl⟩
  go_wp2_with fail
  go_ret
  exact ⟨rfl, HK.out.drewN k⟩

/-- setNode keeps its contract -/
theorem setNode_ok {base b fx rf hf c place : Nat} (hhf : hf ≤ 10) (hc : c ≤ 255) (hfx : 0 < fx) : ∀ h, h ≤ 10 → SetOk base b fx rf hf c place h := by
  intro h
  induction h with
  | zero =>
    intro hh w N nd pos Fp n H z hfN hN t wf hz
    by_cases hn : n = 0
    · subst hn
      have hna := hz.top
      by_cases hp : place = 0
      · refine (setNode_early (e := 0) (by omega) hhf hc hfx w N nd Fp H hfN hN wf hna.symm (by omega)).mono ?_
        rintro r w' ⟨rfl, hk⟩
        exact ⟨0, rfl, nd, N, pos, Fp, H.grow hk, Step.after hk (Step.refl _ _), SetP.none z t place (by rw [rd_zero z, hp])⟩
      · exact setNode_step (by omega) hhf hc hfx (fun h => absurd h (by omega)) w N nd pos Fp 0 0 H z hfN hN t wf (fun h => absurd h (by omega)) (.inr ⟨rfl, hna.symm, by rw [rd_zero z]; omega⟩)
    · exact setNode_step (by omega) hhf hc hfx (fun h => absurd h (by omega)) w N nd pos Fp n n H z hfN hN t wf (fun h => absurd h (by omega)) (.inl ⟨hn, rfl⟩)
  | succ h ih =>
    intro hh w N nd pos Fp n H z hfN hN t wf hz
    have ih := ih (by omega)
    by_cases hn : n = 0
    · subst hn
      have hna := hz.top
      by_cases hp : place = 0
      · refine (setNode_early (e := 0) (by omega) hhf hc hfx w N nd Fp H hfN hN wf hna.symm (by omega)).mono ?_
        rintro r w' ⟨rfl, hk⟩
        exact ⟨0, rfl, nd, N, pos, Fp, H.grow hk, Step.after hk (Step.refl _ _), SetP.none z t place (by rw [rd_zero z, hp])⟩
      · exact setNode_step (by omega) hhf hc hfx (fun _ => ih) w N nd pos Fp 0 0 H z hfN hN t wf (fun _ => hz.2) (.inr ⟨rfl, hna.symm, by rw [rd_zero z]; omega⟩)
    · exact setNode_step (by omega) hhf hc hfx (fun _ => ih) w N nd pos Fp n n H z hfN hN t wf (fun _ => hz.2) (.inl ⟨hn, rfl⟩)
end Go.Proofs.Ybulkcqyu
