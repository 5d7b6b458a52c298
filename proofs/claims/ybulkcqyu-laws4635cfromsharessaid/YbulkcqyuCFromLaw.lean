/-
  LawS4635CFromShares (5), walked.
-/
import Derived.Test.YbulkcqyuCModel
namespace Go.Proofs.Ybulkcqyu
set_option linter.unusedVariables false
set_option linter.unusedSimpArgs false
open Go.RowKit Go.Deep

set_option maxHeartbeats 400000 in
theorem share_any (sa : Option Addr) (sb so len cap : Nat) (cn : Nat) (hcn : cn ≤ 255) (pl : Int) (hpl : -2147483648 ≤ pl ∧ pl ≤ 2147483647) (Ch : Nat → Nat) (Pl : Nat → Int) (Fx : Nat → Bool) (w : World)
    (hst : Hid (∀ i, i < len → sa = some ⟨sb, so, none⟩ ∧ w.cell? ⟨sb, so + i * 3, none⟩ = some (.int .u8 (Ch i)) ∧ w.cell? ⟨sb, so + i * 3 + 1, none⟩ = some (.int .i32 (Pl i)) ∧ w.cell? ⟨sb, so + i * 3 + 1 + 1, none⟩ = some (.bool (Fx i)) ∧ Ch i ≤ 255 ∧ -2147483648 ≤ Pl i ∧ Pl i ≤ 2147483647))
    (hlen : len ≤ 1024) :
    Calls Yba.prog 5 #[.slice sa len cap, .int .u8 cn, .int .i32 pl] w fun e w' => e = .returned (.bool true) ∧ Below w.heap.size w w' := by
  have hd1024 : decide ((1024 : Int) < (len : Int)) = false := by simp; omega
  have hnew := (show Hid _ from new_any w)
  obtain ⟨Z, hal, hrz⟩ := al53
  have HRZ := (show Hid _ from hrz)
  clear hrz
  go_enter Yba.func5, Yba.ntmps5
  go_wp2_with fail
  refine Calls.mono hnew.out ?_
  rintro e w1 ⟨lv, ll, cb, nd, rfl, hS, hll, hz, hc1⟩
  obtain ⟨ao, lc, rfl⟩ := ownsRow_slice hS.own
  obtain ⟨Fp, hstr, hFp⟩ := start_str hS hll hc1
  obtain ⟨W4, hW4⟩ : ∃ W4, W4 = (w1.alloc (.cells #[.slice ao ll lc, .int .u32 1, .int .u32 1] 51)).alloc (.cells Z 53) := ⟨_, rfl⟩
  have HW4 : Hid (W4 = (w1.alloc (.cells #[.slice ao ll lc, .int .u32 1, .int .u32 1] 51)).alloc (.cells Z 53)) := hW4
  have hsz1 := hc1.size
  have sz4 : W4.heap.size = w1.heap.size + 2 := by rw [hW4]; simp
  have rm1 : W4.rowIs (w1.heap.size + 1) 53 256 (fun _ => .int .i32 0) := by
    have := HRZ.out (w1.alloc (.cells #[.slice ao ll lc, .int .u32 1, .int .u32 1] 51))
    rw [show (w1.alloc (.cells #[.slice ao ll lc, .int .u32 1, .int .u32 1] 51)).heap.size = w1.heap.size + 1 by simp] at this
    rw [hW4]; exact this
  have hs4 : Str W4 w.heap.size w1.heap.size 1 1 nd Fp := by rw [hW4]; exact hstr.grow ((Chg.refl _ _).alloc _)
  have hc4 : Chg (fun _ => False) w W4 := by rw [hW4]; exact (hc1.alloc _).alloc _
  have hb1 := (show Hid _ from build_any (mb := w1.heap.size + 1) sa sb so len cap Ch Pl Fx (fun _ => 0) W4 1 1 nd (fun _ => (0, 0)) Fp 0 0 (fun i hi => by
    obtain ⟨hsa, s0, s1, s2, s3, s4, s5⟩ := hst.out i hi
    have hl : sb < w.heap.size := World.block_lt_of_cell? w _ s0
    exact ⟨hsa, by rw [hc4.cell hl (fun x => x)]; exact s0, by rw [hc4.cell hl (fun x => x)]; exact s1, by rw [hc4.cell hl (fun x => x)]; exact s2, s3, s4, s5, by omega, fun hf => by have := (hFp _ hf).1; omega⟩) (by omega) hs4 hz (by omega) (by omega) (by omega) (by omega) (Tree.zero (by omega) (by omega) _ _) (fun x _ => by rw [view_zero hz]; rfl) rm1 (fun hf => by have := (hFp _ hf).2; omega))
  have HX : Hid (Chg (fun _ => False) w W4 ∧ (∀ x, Fp x → w.heap.size ≤ x ∧ x ≤ w1.heap.size)) := ⟨hc4, hFp⟩
  have hrg : Hid (∀ i, i < len → -2147483648 ≤ Pl i ∧ Pl i ≤ 2147483647) := fun i hi => (hst.out i hi).2.2.2.2.2
  clear hS hc1 hnew hstr hFp hW4 rm1 hs4 hc4 hz hll HRZ hst
  go_wp2_with (with_reducible refine wpList_alloc_run _ rfl 53 rfl _ _ (hal _) ?_)
  rw [← HW4.out]
  refine Calls.mono hb1.out ?_
  rintro e w5 ⟨r5, h5, rfl, hh5, nd5, N5, fx5, pos5, Fp5, a1, a2, a3, a4, a5, a6, a7, a8, a9, a10, a11⟩
  -- the other clock, fixed
  obtain ⟨hx1, hx3⟩ := HX.out
  have sz5 := a10.size
  have hFp5 : ∀ x, Fp5 x → w.heap.size ≤ x ∧ (x ≤ w1.heap.size ∨ W4.heap.size ≤ x) ∧ x < w5.heap.size := fun x hx => by
    have h1 := a1.lt hx
    rcases a11 x hx with h | h
    · have := hx3 x h; omega
    · omega
  obtain ⟨w6, hw6⟩ : ∃ w6, w6 = w5.alloc (.cells #[.int .u32 r5, .int .i32 h5] 55) := ⟨_, rfl⟩
  have HW6 : Hid (w6 = w5.alloc (.cells #[.int .u32 r5, .int .i32 h5] 55)) := hw6
  have c56 : Chg (fun _ => False) w5 w6 := by rw [hw6]; exact (Chg.refl _ _).alloc _
  have sz6 : w6.heap.size = w5.heap.size + 1 := by rw [hw6]; simp
  have p9 : w6.rowIs w5.heap.size 55 2 (pair r5 h5) := by rw [hw6]; exact pair_new w5 r5 h5
  have hfix := (show Hid _ from fix_str w6 (a1.grow c56))
  have s7 := (a1.grow c56).fixed
  obtain ⟨w7, hw7⟩ : ∃ w7, w7 = w6.setCell ⟨w1.heap.size, 2, none⟩ (.int .u32 (N5 : Int)) := ⟨_, rfl⟩
  rw [← hw7] at s7
  have HW7 : Hid (w7 = w6.setCell ⟨w1.heap.size, 2, none⟩ (.int .u32 (N5 : Int))) := hw7
  have c67 : Chg (fun x => x = w1.heap.size) w6 w7 := by rw [hw7]; exact (Chg.refl (fun x => x = w1.heap.size) w6).setCell (p := ⟨w1.heap.size, 2, none⟩) (fun _ => rfl) _
  have sz7 : w7.heap.size = w5.heap.size + 1 := by rw [hw7]; simp [sz6]
  have p9' : w7.rowIs w5.heap.size 55 2 (pair r5 h5) := c67.row p9 (by omega)
  have e0 : w7.cell? ⟨w5.heap.size, 0, none⟩ = some (.int .u32 r5) := p9'.cell (i := 0) (by omega)
  have e1 : w7.cell? ⟨w5.heap.size, 1, none⟩ = some (.int .i32 h5) := p9'.cell (i := 1) (by omega)
  have rm1 : w7.rowIs (w1.heap.size + 1) 53 256 (fun i => .int .i32 (mk Ch Pl (fun _ => 0) len i)) := c67.row (c56.row a9 (fun x => x)) (by omega)
  have c47 : Chg (fun x => w.heap.size ≤ x) w w7 := (((hx1.mono (fun _ x => x.elim)).andThen a10 (fun x hx _ => by
    rcases hx with h | h | h
    · exact (hx3 x h).1
    · omega
    · omega)).andThen c56 (fun _ x _ => x.elim)).andThen c67 (fun x hx _ => by omega)
  have hg0 : decide ((h5 : Int) < 0) = false := by simp
  have hg3 : decide ((3 : Int) < (h5 : Int)) = false := by simp; omega
  obtain ⟨sp, hsp⟩ : ∃ sp : Nat, sp = 4 ^ (h5 + 1) := ⟨_, rfl⟩
  have hsp4 : 4 ≤ sp ∧ sp ≤ 256 := by
    rw [hsp]
    rcases (by omega : h5 = 0 ∨ h5 = 1 ∨ h5 = 2 ∨ h5 = 3) with rfl | rfl | rfl | rfl <;> simp
  have hspw : wrap32 (2 ^ (2 * (h5 + 1))) = (sp : Int) := by
    rw [hsp]
    rcases (by omega : h5 = 0 ∨ h5 = 1 ∨ h5 = 2 ∨ h5 = 3) with rfl | rfl | rfl | rfl <;> (unfold wrap32; decide)
  obtain ⟨c, hcv, hcl⟩ : ∃ c : Nat, (cn : Int) % (sp : Int) = (c : Int) ∧ c < sp ∧ c ≤ cn := ⟨cn % sp, (Int.natCast_emod _ _).symm, Nat.mod_lt _ (by omega), Nat.mod_le _ _⟩
  have hsp0 : (sp : Int) ≠ 0 := by omega
  have HSP : Hid (sp = 4 ^ (h5 + 1)) := hsp
  clear hsp
  obtain ⟨place, hplace⟩ : ∃ p : Nat, pl % 4294967296 = (p : Int) := ⟨(pl % 4294967296).toNat, by omega⟩
  have hset := (show Hid _ from setFrom_share place hplace hh5 (by omega) (show c < 4 ^ (h5 + 1) by rw [← HSP.out]; exact hcl.1) (by omega) w7 N5 nd5 Fp5 s7 a2 (Nat.le_refl _) (by omega) a7.wf)
  have HA : Hid (Chg (fun x => w.heap.size ≤ x) w w7 ∧ w7.rowIs (w1.heap.size + 1) 53 256 (fun i => .int .i32 (mk Ch Pl (fun _ => 0) len i)) ∧ w7.rowIs w5.heap.size 55 2 (pair r5 h5) ∧ (∀ x, Fp5 x → w.heap.size ≤ x ∧ (x ≤ w1.heap.size ∨ W4.heap.size ≤ x) ∧ x < w5.heap.size) ∧ Wf nd5 N5 h5 r5 ∧ (∀ x, x < 256 → ((view nd5 h5 r5 x : Nat) : Int) = mk Ch Pl (fun _ => 0) len x % 4294967296) ∧ 0 < N5 ∧ N5 ≤ 1 + 8 * len) := ⟨c47, rm1, p9', hFp5, a7.wf, a8, by omega, a5⟩
  have hM5 : Hid (∀ x, -2147483648 ≤ mk Ch Pl (fun _ => 0) len x ∧ mk Ch Pl (fun _ => 0) len x ≤ 2147483647) := fun x => mk_range len hrg.out x (by constructor <;> omega)
  generalize mk Ch Pl (fun _ => 0) len = M5 at *
  have HCL : Hid (c < 4 ^ (h5 + 1) ∧ c ≤ 255) := ⟨by rw [← HSP.out]; exact hcl.1, by omega⟩
  have HSZ : Hid (w.heap.size ≤ w1.heap.size ∧ W4.heap.size = w1.heap.size + 2 ∧ W4.heap.size ≤ w5.heap.size ∧ w7.heap.size = w5.heap.size + 1) := ⟨hsz1, sz4, sz5, sz7⟩
  clear hsp4 hcl HSP hsz1 sz4 sz5 sz6 sz7
  clear hw6 hw7 hb1 c56 c67 p9 p9' rm1 c47 s7 a1 a2 a3 a4 a5 a6 a7 a8 a9 a10 a11 hx1 hx3 hFp5 HX hrg
  go_wp2_with fail
  rw [← HW6.out]
  refine Calls.mono hfix.out ?_
  rintro e w7' ⟨rfl, hw7'⟩
  rw [← HW7.out] at hw7'
  subst hw7'
  clear hfix
  go_wp2_with fail
  refine Calls.mono hset.out ?_
  rintro e w8 ⟨r8, h8, rfl, hh8, heq, hout⟩
  obtain rfl := heq HCL.out.1
  obtain ⟨nd8, N8, pos8, Fp8, o1, o2, o3, o4, o5, o6, o7⟩ := hout
  obtain ⟨u1, u2, u3, u4, u5, u6, u7, u8⟩ := HA.out
  obtain ⟨z1, z2, z3, z4⟩ := HSZ.out
  obtain ⟨w9, hw9⟩ : ∃ w9, w9 = w8.alloc (.cells #[.int .u32 r8, .int .i32 h8] 55) := ⟨_, rfl⟩
  have HW9 : Hid (w9 = w8.alloc (.cells #[.int .u32 r8, .int .i32 h8] 55)) := hw9
  have c89 : Chg (fun _ => False) w8 w9 := by rw [hw9]; exact (Chg.refl _ _).alloc _
  have o2s := o2.1.size
  have hnf : ∀ x, x = w5.heap.size ∨ x = w1.heap.size + 1 → ¬ Fp5 x := by
    intro x hx hh
    have := u4 _ hh; omega
  have p9 : Hid (w9.rowIs w5.heap.size 55 2 (pair r5 h8)) := c89.row (o2.1.row u3 (hnf _ (by omega))) (fun x => x)
  have p13 : Hid (w9.rowIs w8.heap.size 55 2 (pair r8 h8)) := by rw [hw9]; exact pair_new w8 r8 h8
  have pm1 : Hid (w9.rowIs (w1.heap.size + 1) 53 256 (fun i => .int .i32 (M5 i))) := c89.row (o2.1.row u2 (hnf _ (by omega))) (fun x => x)
  have s9 : Hid (Str w9 w.heap.size w1.heap.size N8 N5 nd8 Fp8) := o1.grow c89
  have c9 : Hid (Chg (fun x => w.heap.size ≤ x) w w9) := (u1.andThen o2.1 (fun x hx _ => (u4 _ hx).1)).andThen c89 (fun _ x _ => x.elim)
  have wfs := u5.move u7 o5
  have wf9 : Hid (Wf nd8 N8 h8 r8 ∧ Wf nd8 N8 h8 r5 ∧ N8 ≤ 400000 ∧ (∀ x, x < 256 → view nd8 h8 r8 x = if x = c ∧ view nd5 h8 r5 c < place then place else view nd5 h8 r5 x) ∧ ∀ x, x < 256 → ((view nd8 h8 r5 x : Nat) : Int) = M5 x % 4294967296) :=
    ⟨o6.wf, wfs.1.mono o3, by omega, o7, fun x hx => by rw [u5.view u7 o5 x]; exact u6 x hx⟩
  have HV5 : Hid (∀ x, x < 256 → ((view nd5 h8 r5 x : Nat) : Int) = M5 x % 4294967296) := u6
  have e13 : w9.cell? ⟨w8.heap.size, 1, none⟩ = some (.int .i32 h8) := p13.out.cell (i := 1) (by omega)
  clear hw9 c89 o1 o2 o3 o4 o5 o6 o7 u1 u2 u3 u4 u5 u6 u7 u8 z1 z2 z3 z4 o2s hnf wfs hset HA HSZ
  go_wp2_with fail
  rw [← HW9.out]
  go_loopw [14] (fun x wr => ∃ t : Nat, t ≤ 256 ∧ x = .int .i32 t ∧ Hid (Chg (fun _ => False) w9 wr)) (fun x _ => 256 - (intOf x).toNat)
  case atStart => exact ⟨0, by omega, rfl, Chg.refl _ _⟩
  case round =>
    obtain ⟨t, ht, rfl, HK⟩ := hrel
    rcases (by omega : t < 256 ∨ t = 256) with h1 | h1
    · have hd : decide ((t : Int) < 256) = true := by simp; omega
      have hi0 : (0 : Int) ≤ (t : Int) := by omega
      have hi1 : (t : Int) < 256 := by omega
      obtain ⟨v, hv⟩ : ∃ v : Nat, v = view nd5 h8 r5 t := ⟨_, rfl⟩
      have hMv : M5 t % 4294967296 = (v : Int) := by rw [hv]; exact (HV5.out t h1).symm
      have hMr := hM5.out t
      have get2 : Hid (∀ W, Chg (fun _ => False) w9 W → Calls Yba.prog 11 #[.pointer (some ⟨w1.heap.size, 0, none⟩), .agg #[.int .u32 r5, .int .i32 h8], .int .i32 t] W fun e w' => e = .returned (.int .i32 (M5 t)) ∧ Chg (fun _ => False) w9 w') := fun W hk =>
        (get_view r5 h8 t (M5 t) W (s9.out.grow hk) wf9.out.2.2.1 (by omega) (by omega) wf9.out.2.1 (wf9.out.2.2.2.2 t h1) (hM5.out t)).mono (fun e w' h => ⟨h.1, hk.trans h.2⟩)
      have get1 : Hid (∀ W, Chg (fun _ => False) w9 W → Calls Yba.prog 11 #[.pointer (some ⟨w1.heap.size, 0, none⟩), .agg #[.int .u32 r8, .int .i32 h8], .int .i32 t] W fun e w' => e = .returned (.int .i32 (if t = c ∧ v < place then pl else M5 t)) ∧ Chg (fun _ => False) w9 w') := fun W hk => by
        refine (get_view r8 h8 t (if t = c ∧ v < place then pl else M5 t) W (s9.out.grow hk) wf9.out.2.2.1 (by omega) (by omega) wf9.out.1 ?_ (by split <;> omega)).mono (fun e w' h => ⟨h.1, hk.trans h.2⟩)
        rw [wf9.out.2.2.2.1 t h1]
        by_cases e : t = c
        · subst e
          rw [← hv]
          by_cases e2 : v < place
          · rw [if_pos ⟨rfl, e2⟩, if_pos ⟨rfl, e2⟩]; exact hplace.symm
          · rw [if_neg (fun h => e2 h.2), if_neg (fun h => e2 h.2)]; exact hMv.symm
        · rw [if_neg (fun h => e h.1), if_neg (fun h => e h.1), ← hv]; exact hMv.symm
      have cells : Hid (∀ W, Chg (fun _ => False) w9 W → W.cell? ⟨w5.heap.size, 0, none⟩ = some (.int .u32 r5) ∧ W.cell? ⟨w5.heap.size, 1, none⟩ = some (.int .i32 h8) ∧ W.cell? ⟨w8.heap.size, 0, none⟩ = some (.int .u32 r8) ∧ W.cell? ⟨w8.heap.size, 1, none⟩ = some (.int .i32 h8) ∧ W.cell? ⟨w1.heap.size + 1, t, none⟩ = some (.int .i32 (M5 t))) := fun W hk =>
        ⟨(hk.row p9.out (fun x => x)).cell (i := 0) (by omega), (hk.row p9.out (fun x => x)).cell (i := 1) (by omega), (hk.row p13.out (fun x => x)).cell (i := 0) (by omega), (hk.row p13.out (fun x => x)).cell (i := 1) (by omega), (hk.row pm1.out (fun x => x)).cell (i := t) (by omega)⟩
      generalize M5 t = m5 at cells get1 get2 hMv hMr
      clear hv
      obtain ⟨k0, k1, k2, k3, k4⟩ := cells.out wr HK.out
      have fin : Hid (∀ w'', Chg (fun _ => False) w9 w'' → (∃ t' : Nat, t' ≤ 256 ∧ Value.int .i32 ((t : Int) + 1) = .int .i32 t' ∧ Hid (Chg (fun _ => False) w9 w'')) ∧ 256 - (intOf (Value.int .i32 ((t : Int) + 1))).toNat < 256 - (intOf (Value.int .i32 (t : Int))).toNat) := fun w'' hk => ⟨⟨t + 1, by omega, by rw [show ((t + 1 : Nat) : Int) = (t : Int) + 1 by omega], hk⟩, by simp only [intOf]; omega⟩
      by_cases e : t = c
      · have hb1 : ((t : Int) == (c : Int)) = true := by simp; omega
        by_cases e2 : v < place
        · rw [if_pos ⟨e, e2⟩] at get1
          clear e
          go_wp2_with fail
          refine Calls.mono (get1.out wr HK.out) ?_
          rintro e w' ⟨rfl, hk'⟩
          obtain ⟨l0, l1, l2, l3, l4⟩ := cells.out w' hk'
          have HK' : Hid (Chg (fun _ => False) w9 w') := hk'
          clear hk'
          go_wp2_with fail
          go_region_held3 (fun w' => w'.cell? ⟨w5.heap.size, 0, none⟩ = some (.int .u32 r5) ∧ w'.cell? ⟨w5.heap.size, 1, none⟩ = some (.int .i32 h8) ∧ w'.cell? ⟨w1.heap.size + 1, t, none⟩ = some (.int .i32 m5)) (go_keep) ((go_at_call 11; refine Calls.mono (get2.out w'.drew HK'.out.drew) ?_; rintro e w'' ⟨rfl, hk''⟩; obtain ⟨j0, j1, j2, j3, j4⟩ := cells.out w'' hk''; have HK'' : Hid (Chg (fun _ => False) w9 w'') := hk''; clear hk''))
          go_wp2_with fail
          exact fin.out _ HK''.out
        · rw [if_neg (fun h => e2 h.2)] at get1
          clear e
          go_wp2_with fail
          refine Calls.mono (get1.out wr HK.out) ?_
          rintro e w' ⟨rfl, hk'⟩
          obtain ⟨l0, l1, l2, l3, l4⟩ := cells.out w' hk'
          have HK' : Hid (Chg (fun _ => False) w9 w') := hk'
          clear hk'
          go_wp2_with fail
          go_region_held3 (fun w' => w'.cell? ⟨w5.heap.size, 0, none⟩ = some (.int .u32 r5) ∧ w'.cell? ⟨w5.heap.size, 1, none⟩ = some (.int .i32 h8) ∧ w'.cell? ⟨w1.heap.size + 1, t, none⟩ = some (.int .i32 m5)) (go_keep) ((go_at_call 11; refine Calls.mono (get2.out w'.drew HK'.out.drew) ?_; rintro e w'' ⟨rfl, hk''⟩; obtain ⟨j0, j1, j2, j3, j4⟩ := cells.out w'' hk''; have HK'' : Hid (Chg (fun _ => False) w9 w'') := hk''; clear hk''))
          go_wp2_with fail
          exact fin.out _ HK''.out
      · have hb1 : ((t : Int) == (c : Int)) = false := by simp; omega
        rw [if_neg (fun h => e h.1)] at get1
        go_wp2_with fail
        refine Calls.mono (get1.out wr HK.out) ?_
        rintro e w' ⟨rfl, hk'⟩
        obtain ⟨l0, l1, l2, l3, l4⟩ := cells.out w' hk'
        have HK' : Hid (Chg (fun _ => False) w9 w') := hk'
        clear hk'
        go_wp2_with fail
        go_region_held3 (fun w' => w'.cell? ⟨w5.heap.size, 0, none⟩ = some (.int .u32 r5) ∧ w'.cell? ⟨w5.heap.size, 1, none⟩ = some (.int .i32 h8) ∧ w'.cell? ⟨w1.heap.size + 1, t, none⟩ = some (.int .i32 m5)) (go_keep) ((go_at_call 11; refine Calls.mono (get2.out w'.drew HK'.out.drew) ?_; rintro e w'' ⟨rfl, hk''⟩; obtain ⟨j0, j1, j2, j3, j4⟩ := cells.out w'' hk''; have HK'' : Hid (Chg (fun _ => False) w9 w'') := hk''; clear hk''))
        go_wp2_with fail
        exact fin.out _ HK''.out
    · subst h1
      go_wp2_with fail
      go_ret
      exact ⟨rfl, ((c9.out.andThen HK.out (fun _ x _ => x.elim))).below (Nat.le_refl _) (fun b hb => by omega)⟩
end Go.Proofs.Ybulkcqyu
