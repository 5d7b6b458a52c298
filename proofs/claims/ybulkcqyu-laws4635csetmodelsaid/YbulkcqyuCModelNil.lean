/-
  LawS4635CSetModel (4), walked: no steps (a nil slice; an empty one).
-/
import Derived.Test.YbulkcqyuCModel
namespace Go.Proofs.Ybulkcqyu
set_option linter.unusedVariables false
set_option linter.unusedSimpArgs false
open Go.RowKit Go.Deep

set_option maxHeartbeats 400000 in
theorem model_nil (sn : Nat) (hsn : sn ≤ 65535) (sb so len cap : Nat) (Ch : Nat → Nat) (Pl : Nat → Int) (Fx : Nat → Bool) (w : World)
    (hst : Hid (∀ i, i < len → w.cell? ⟨sb, so + i * 3, none⟩ = some (.int .u8 (Ch i)) ∧ w.cell? ⟨sb, so + i * 3 + 1, none⟩ = some (.int .i32 (Pl i)) ∧ w.cell? ⟨sb, so + i * 3 + 1 + 1, none⟩ = some (.bool (Fx i)) ∧ Ch i ≤ 255 ∧ -2147483648 ≤ Pl i ∧ Pl i ≤ 2147483647))
    (hlen : len ≤ 1024) (hlc : len ≤ cap) (hl0 : Hid (len = 0)) :
    Calls Yba.prog 4 #[.slice none len cap, .int .u16 sn] w fun e w' => e = .returned (.bool true) ∧ Below w.heap.size w w' := by
  have hd1024 : decide ((1024 : Int) < (len : Int)) = false := by simp; omega
  have hnew := (show Hid _ from new_any w)
  obtain ⟨Z, hal, hrz⟩ := al53
  obtain ⟨k, hk⟩ : ∃ k : Nat, k = sn % (len + 1) := ⟨_, rfl⟩
  have hk1 : k ≤ len := by have := Nat.mod_lt sn (show 0 < len + 1 by omega); omega
  have hmod : Int.tmod (sn : Int) ((len : Int) + 1) = (k : Int) := by rw [hk, Int.tmod_eq_emod_of_nonneg (by omega)]; push_cast; rfl
  have HRZ := (show Hid _ from hrz)
  clear hrz hk
  go_enter Yba.func4, Yba.ntmps4
  go_wp2_with fail
  refine Calls.mono hnew.out ?_
  rintro e w1 ⟨lv, ll, cb, nd, rfl, hS, hll, hz, hc1⟩
  obtain ⟨ao, lc, rfl⟩ := ownsRow_slice hS.own
  obtain ⟨Fp, hstr, hFp⟩ := start_str hS hll hc1
  obtain ⟨W4, hW4⟩ : ∃ W4, W4 = ((w1.alloc (.cells #[.slice ao ll lc, .int .u32 1, .int .u32 1] 51)).alloc (.cells Z 53)).alloc (.cells Z 53) := ⟨_, rfl⟩
  have HW4 : Hid (W4 = ((w1.alloc (.cells #[.slice ao ll lc, .int .u32 1, .int .u32 1] 51)).alloc (.cells Z 53)).alloc (.cells Z 53)) := hW4
  have hsz1 := hc1.size
  have sz4 : W4.heap.size = w1.heap.size + 3 := by rw [hW4]; simp
  have rm1 : W4.rowIs (w1.heap.size + 1) 53 256 (fun _ => .int .i32 0) := by
    have := HRZ.out (w1.alloc (.cells #[.slice ao ll lc, .int .u32 1, .int .u32 1] 51))
    rw [show (w1.alloc (.cells #[.slice ao ll lc, .int .u32 1, .int .u32 1] 51)).heap.size = w1.heap.size + 1 by simp] at this
    rw [hW4]; exact ((Chg.refl (fun _ => False) _).alloc _).row this (fun x => x)
  have rm2 : W4.rowIs (w1.heap.size + 2) 53 256 (fun _ => .int .i32 0) := by
    have := HRZ.out ((w1.alloc (.cells #[.slice ao ll lc, .int .u32 1, .int .u32 1] 51)).alloc (.cells Z 53))
    rw [show ((w1.alloc (.cells #[.slice ao ll lc, .int .u32 1, .int .u32 1] 51)).alloc (.cells Z 53)).heap.size = w1.heap.size + 2 by simp] at this
    rw [hW4]; exact this
  have hs4 : Str W4 w.heap.size w1.heap.size 1 1 nd Fp := by rw [hW4]; exact hstr.grow (((Chg.refl _ _).alloc _).alloc _)
  have hc4 : Chg (fun _ => False) w W4 := by rw [hW4]; exact ((hc1.alloc _).alloc _).alloc _
  have hst4 : ∀ i, i < len → W4.cell? ⟨sb, so + i * 3, none⟩ = some (.int .u8 (Ch i)) ∧ W4.cell? ⟨sb, so + i * 3 + 1, none⟩ = some (.int .i32 (Pl i)) ∧ W4.cell? ⟨sb, so + i * 3 + 1 + 1, none⟩ = some (.bool (Fx i)) ∧ Ch i ≤ 255 ∧ -2147483648 ≤ Pl i ∧ Pl i ≤ 2147483647 ∧ sb < w.heap.size := by
    intro i hi
    obtain ⟨s0, s1, s2, s3⟩ := hst.out i hi
    have hl : sb < w.heap.size := World.block_lt_of_cell? w _ s0
    exact ⟨by rw [hc4.cell hl (fun x => x)]; exact s0, by rw [hc4.cell hl (fun x => x)]; exact s1, by rw [hc4.cell hl (fun x => x)]; exact s2, s3.1, s3.2.1, s3.2.2, hl⟩
  have hb1 := (show Hid _ from build_any (mb := w1.heap.size + 1) none sb so k cap Ch Pl Fx (fun _ => 0) W4 1 1 nd (fun _ => (0, 0)) Fp 0 0 (fun i hi => by
    have := hl0.out
    omega) (by omega) hs4 hz (by omega) (by omega) (by omega) (by omega) (Tree.zero (by omega) (by omega) _ _) (fun x _ => by rw [view_zero hz]; rfl) rm1 (fun hf => by have := (hFp _ hf).2; omega))
  have HX : Hid (Chg (fun _ => False) w W4 ∧ W4.rowIs (w1.heap.size + 2) 53 256 (fun _ => .int .i32 0) ∧ (∀ x, Fp x → w.heap.size ≤ x ∧ x ≤ w1.heap.size)) := ⟨hc4, rm2, hFp⟩
  have HST := (show Hid _ from hst4)
  clear hS hc1 hnew hstr hFp hW4 rm1 rm2 hs4 hc4 hst4 hz hll HRZ
  go_wp2_with (with_reducible refine wpList_alloc_run _ rfl 53 rfl _ _ (hal _) ?_)
  rw [← HW4.out]
  refine Calls.mono hb1.out ?_
  rintro e w5 ⟨r5, h5, rfl, hh5, nd5, N5, fx5, pos5, Fp5, a1, a2, a3, a4, a5, a6, a7, a8, a9, a10, a11⟩
  -- the snapshot
  obtain ⟨hx1, hx2, hx3⟩ := HX.out
  have sz5 := a10.size
  have hFp5 : ∀ x, Fp5 x → w.heap.size ≤ x ∧ (x ≤ w1.heap.size ∨ W4.heap.size ≤ x) ∧ x < w5.heap.size := fun x hx => by
    have h1 := a1.lt hx
    rcases a11 x hx with h | h
    · have := hx3 x h; omega
    · omega
  obtain ⟨w6, hw6⟩ : ∃ w6, w6 = w5.alloc (.cells #[.int .u32 r5, .int .i32 h5] 55) := ⟨_, rfl⟩
  have HW6 : Hid (w6 = w5.alloc (.cells #[.int .u32 r5, .int .i32 h5] 55)) := hw6
  have c56 : Chg (fun _ => False) w5 w6 := by rw [hw6]; exact (Chg.refl _ _).alloc _
  have sz6 : w6.heap.size = w5.heap.size + 1 := by rw [hw6]; simp
  have p9 : w6.rowIs w5.heap.size 55 2 (pair r5 h5) := by rw [hw6]; exact pair_new w5 r5 h5
  have hfix := (show Hid _ from fix_str w6 (a1.grow c56))
  have s7 := (a1.grow c56).fixed
  obtain ⟨w7, hw7⟩ : ∃ w7, w7 = w6.setCell ⟨w1.heap.size, 2, none⟩ (.int .u32 (N5 : Int)) := ⟨_, rfl⟩
  rw [← hw7] at s7
  have HW7 : Hid (w7 = w6.setCell ⟨w1.heap.size, 2, none⟩ (.int .u32 (N5 : Int))) := hw7
  have c67 : Chg (fun x => x = w1.heap.size) w6 w7 := by rw [hw7]; exact (Chg.refl (fun x => x = w1.heap.size) w6).setCell (p := ⟨w1.heap.size, 2, none⟩) (fun _ => rfl) _
  have sz7 : w7.heap.size = w5.heap.size + 1 := by rw [hw7]; simp [sz6]
  have p9' : w7.rowIs w5.heap.size 55 2 (pair r5 h5) := c67.row p9 (by omega)
  have e0 : w7.cell? ⟨w5.heap.size, 0, none⟩ = some (.int .u32 r5) := p9'.cell (i := 0) (by omega)
  have e1 : w7.cell? ⟨w5.heap.size, 1, none⟩ = some (.int .i32 h5) := p9'.cell (i := 1) (by omega)
  obtain ⟨w8, hw8⟩ : ∃ w8, w8 = w7.alloc (.cells #[.int .u32 r5, .int .i32 h5] 55) := ⟨_, rfl⟩
  have HW8 : Hid (w8 = w7.alloc (.cells #[.int .u32 r5, .int .i32 h5] 55)) := hw8
  have c78 : Chg (fun _ => False) w7 w8 := by rw [hw8]; exact (Chg.refl _ _).alloc _
  have rm1 : w8.rowIs (w1.heap.size + 1) 53 256 (fun i => .int .i32 (mk Ch Pl (fun _ => 0) k i)) := c78.row (c67.row (c56.row a9 (fun x => x)) (by omega)) (fun x => x)
  have rm2 : w8.rowIs (w1.heap.size + 1 + 1) 53 256 (fun _ => .int .i32 0) := c78.row (c67.row (c56.row (a10.row hx2 (fun hx => by
    rcases hx with h | h | h
    · have := (hx3 _ h).2; omega
    · omega
    · omega)) (fun x => x)) (by omega)) (fun x => x)
  obtain ⟨c, hc, hcs, hci⟩ := rm1
  obtain ⟨old, hold, holds, holdi⟩ := rm2
  have hu : Hid (Yba.prog.underlying 53 = some (.array 256 21)) := Yba.underlying53
  have hi0 : (Yba.prog.info? 53).map (·.size) = some c.size := by rw [hcs]; kernel_rfl
  have hi : Hid ((Yba.prog.info? 53).map (·.size) = some c.size) := hi0
  clear hi0
  have h1c : Hid (c.all (·.oneCell') = true) := by
    rw [Hid]
    rw [Array.all_eq_true]
    intro i hi
    have := hci i (by omega)
    rw [Array.getElem?_eq_getElem hi] at this
    simp only [Option.some.injEq] at this
    rw [this]; rfl
  have HG1 : Hid ((w7.alloc (.cells #[.int .u32 r5, .int .i32 h5] 55)).heap[w1.heap.size + 1]? = some (.cells c 53)) := by rw [← hw8]; exact hc
  have HG2 : Hid ((w7.alloc (.cells #[.int .u32 r5, .int .i32 h5] 55)).heap[w1.heap.size + 1 + 1]? = some (.cells old 53)) := by rw [← hw8]; exact hold
  have HO : Hid (old.size = c.size) := by rw [hcs, holds]; exact rfl
  obtain ⟨w9, hw9⟩ : ∃ w9, w9 = w8.setRow (w1.heap.size + 1 + 1) c := ⟨_, rfl⟩
  have HW9 : Hid (w9 = w8.setRow (w1.heap.size + 1 + 1) c) := hw9
  have c89 : Chg (fun x => x = w1.heap.size + 1 + 1) w8 w9 := by rw [hw9]; exact ⟨rfl, rfl, rfl, by simp, fun k _ hk => setRow_other _ _ _ _ hk⟩
  have rm2 : w9.rowIs (w1.heap.size + 1 + 1) 53 256 (fun i => .int .i32 (mk Ch Pl (fun _ => 0) k i)) := by rw [hw9]; exact ⟨c, setRow_heap _ _ old c 53 (0, 0) hold, hcs, hci⟩
  have rm1 : w9.rowIs (w1.heap.size + 1) 53 256 (fun i => .int .i32 (mk Ch Pl (fun _ => 0) k i)) := c89.row ⟨c, hc, hcs, hci⟩ (by omega)
  have q9 : w9.rowIs w5.heap.size 55 2 (pair r5 h5) := c89.row (c78.row p9' (fun x => x)) (by omega)
  have q10 : w9.rowIs (w5.heap.size + 1) 55 2 (pair r5 h5) := by
    have := pair_new w7 r5 h5
    rw [← hw8, sz7] at this
    exact c89.row this (by omega)
  have s9 : Str w9 w.heap.size w1.heap.size N5 N5 nd5 Fp5 := (s7.grow c78).keep c89 (fun x hx hf => by have := hFp5 x hf; omega)
  have c49 : Chg (fun x => w.heap.size ≤ x) w w9 := ((((hx1.mono (fun _ x => x.elim)).andThen a10 (fun x hx _ => by
    rcases hx with h | h | h
    · exact (hx3 x h).1
    · omega
    · omega)).andThen c56 (fun _ x _ => x.elim)).andThen c67 (fun x hx _ => by omega)).andThen ((c78.mono (T := fun x => w.heap.size ≤ x) (fun _ x => x.elim)).andThen c89 (fun x hx _ => by omega)) (fun x hx _ => hx)
  have sz9 : w9.heap.size = w5.heap.size + 2 := by rw [hw9]; simp [hw8, sz7]
  have e9 : w9.cell? ⟨w5.heap.size, 0, none⟩ = some (.int .u32 r5) := q9.cell (i := 0) (by omega)
  have e9' : w9.cell? ⟨w5.heap.size, 1, none⟩ = some (.int .i32 h5) := q9.cell (i := 1) (by omega)
  have hst9 : ∀ i, i < len → w9.cell? ⟨sb, so + i * 3, none⟩ = some (.int .u8 (Ch i)) ∧ w9.cell? ⟨sb, so + i * 3 + 1, none⟩ = some (.int .i32 (Pl i)) ∧ w9.cell? ⟨sb, so + i * 3 + 1 + 1, none⟩ = some (.bool (Fx i)) ∧ Ch i ≤ 255 ∧ -2147483648 ≤ Pl i ∧ Pl i ≤ 2147483647 ∧ sb < w.heap.size := by
    intro i hi
    obtain ⟨s0, s1, s2, s3⟩ := hst.out i hi
    have hl : sb < w.heap.size := World.block_lt_of_cell? w _ s0
    have hn : ¬ w.heap.size ≤ sb := by omega
    exact ⟨by rw [c49.cell hl hn]; exact s0, by rw [c49.cell hl hn]; exact s1, by rw [c49.cell hl hn]; exact s2, s3.1, s3.2.1, s3.2.2, hl⟩
  have hb2 := (show Hid _ from build_any (mb := w1.heap.size + 1) none sb (so + k * 3) (len - k) (cap - k) (fun i => Ch (k + i)) (fun i => Pl (k + i)) (fun i => Fx (k + i)) (mk Ch Pl (fun _ => 0) k) w9.drew N5 N5 nd5 pos5 Fp5 r5 h5 (fun i hi => by
    have := hl0.out
    omega) (by omega) s9.drew a2 (by omega) (Nat.le_refl _) (by omega) hh5 (a7.wf.tree pos5 (Nat.le_refl _) (Nat.le_refl _)) a8 rm1 (fun hf => by have := hFp5 _ hf; omega))
  have HQ : Hid (w9.rowIs w5.heap.size 55 2 (pair r5 h5) ∧ w9.rowIs (w5.heap.size + 1) 55 2 (pair r5 h5) ∧ w9.rowIs (w1.heap.size + 1 + 1) 53 256 (fun i => .int .i32 (mk Ch Pl (fun _ => 0) k i)) ∧ Chg (fun x => w.heap.size ≤ x) w w9 ∧ (∀ x, Fp5 x → w.heap.size ≤ x ∧ (x ≤ w1.heap.size ∨ W4.heap.size ≤ x) ∧ x < w5.heap.size) ∧ Wf nd5 N5 h5 r5 ∧ Zero nd5 ∧ (∀ x, x < 256 → ((view nd5 h5 r5 x : Nat) : Int) = mk Ch Pl (fun _ => 0) k x % 4294967296)) := ⟨q9, q10, rm2, c49, hFp5, a7.wf, a2, a8⟩
  have hkeep : Hid (∀ w10, Chg (fun x => Fp5 x ∨ x = w1.heap.size + 1 ∨ w9.drew.heap.size ≤ x) w9.drew w10 → w10.rowIs w5.heap.size 55 2 (pair r5 h5)) := fun w10 hcg => hcg.row (show w9.drew.rowIs w5.heap.size 55 2 (pair r5 h5) from q9) (fun hx => by
    rcases hx with h | h | h
    · have := hFp5 _ h; omega
    · omega
    · have h' : w9.heap.size ≤ w5.heap.size := h
      omega)
  have hN5 : 0 < N5 ∧ N5 ≤ 1 + 8 * k := by omega
  have hrg : Hid (∀ i, i < len → -2147483648 ≤ Pl i ∧ Pl i ≤ 2147483647) := fun i hi => ⟨(hst9 i hi).2.2.2.2.1, (hst9 i hi).2.2.2.2.2.1⟩
  clear hb1 hw6 hw7 hw8 hw9 q9 q10 rm1 rm2 c49 hFp5 a1 a2 a3 a4 a5 a6 a7 a8 a9 a10 a11 hx1 hx2 hx3 HX HST c56 c67 c78 c89 p9 p9' s7 s9 hst9
  go_wp2_with fail
  rw [← HW6.out]
  refine Calls.mono hfix.out ?_
  rintro e w7' ⟨rfl, hw7'⟩
  rw [← HW7.out] at hw7'
  subst hw7'
  clear hc hold hcs holds hci holdi
  go_wp2_with (first | (with_reducible refine wpList_load_row rfl 53 (.tmp 6) rfl (w1.heap.size + 1) (by go_simp) 53 c (0, 0) _ HG1.out hu.out rfl hi.out ?_) | (with_reducible refine wpList_store_row rfl 53 (.tmp 7) (.tmp 29) rfl (w1.heap.size + 1 + 1) c (by go_simp) (by go_simp) 53 old HG2.out hi.out HO.out h1c.out ?_))
  rw [← HW8.out, ← HW9.out]
  go_region_with (go_at_call 9; refine Calls.mono hb2.out ?_; rintro e w10 ⟨r10, h10, rfl, hh10, hbi⟩; have HB : Hid _ := hbi; obtain ⟨nd10, N10, fx10, pos10, Fp10, _, _, _, _, _, _, _, _, _, hcg, _⟩ := hbi; have q9' := hkeep.out _ hcg; have g0 : w10.cell? ⟨w5.heap.size, 0, none⟩ = some (.int .u32 r5) := q9'.cell (i := 0) (by omega); have g1 : w10.cell? ⟨w5.heap.size, 1, none⟩ = some (.int .i32 h5) := q9'.cell (i := 1) (by omega); have f0 := q9'.frozen 0; have f1 := q9'.frozen 1; have HQ9 : Hid (w10.rowIs w5.heap.size 55 2 (pair r5 h5)) := q9'; clear q9' hcg)
  obtain ⟨nd10, N10, fx10, pos10, Fp10, a1, a2, a3, a4, a5, a6, a7, a8, a9, a10, a11⟩ := HB.out
  obtain ⟨q9, q10, rm2, c49, hF5, wf5, z5, v5⟩ := HQ.out
  obtain ⟨w11, hw11⟩ : ∃ w11, w11 = (w10.setCell ⟨w5.heap.size, 0, none⟩ (.int .u32 r10)).setCell ⟨w5.heap.size, 1, none⟩ (.int .i32 h10) := ⟨_, rfl⟩
  have HW11 : Hid (w11 = (w10.setCell ⟨w5.heap.size, 0, none⟩ (.int .u32 r10)).setCell ⟨w5.heap.size, 1, none⟩ (.int .i32 h10)) := hw11
  have cp : Chg (fun x => x = w5.heap.size) w10 w11 := by rw [hw11]; exact chg_pair _ _ _ _
  have a10s : w9.heap.size ≤ w10.heap.size := a10.size
  have hnf : ∀ x, x = w5.heap.size ∨ x = w5.heap.size + 1 ∨ x = w1.heap.size + 1 + 1 → ¬ (Fp5 x ∨ x = w1.heap.size + 1 ∨ w9.drew.heap.size ≤ x) := by
    intro x hx hh
    rcases hh with h | h | h
    · have := hF5 _ h; omega
    · omega
    · have h' : w9.heap.size ≤ x := h
      omega
  have p9 : Hid (w11.rowIs w5.heap.size 55 2 (pair r10 h10)) := by rw [hw11]; exact pair_set HQ9.out r10 h10
  have p10 : Hid (w11.rowIs (w5.heap.size + 1) 55 2 (pair r5 h5)) := cp.row (a10.row (show w9.drew.rowIs (w5.heap.size + 1) 55 2 (pair r5 h5) from q10) (hnf _ (by omega))) (by omega)
  have pm1 : Hid (w11.rowIs (w1.heap.size + 1) 53 256 (fun i => .int .i32 (mk (fun i => Ch (k + i)) (fun i => Pl (k + i)) (mk Ch Pl (fun _ => 0) k) (len - k) i))) := cp.row a9 (by omega)
  have pm2 : Hid (w11.rowIs (w1.heap.size + 1 + 1) 53 256 (fun i => .int .i32 (mk Ch Pl (fun _ => 0) k i))) := cp.row (a10.row (show w9.drew.rowIs (w1.heap.size + 1 + 1) 53 256 _ from rm2) (hnf _ (by omega))) (by omega)
  have s11 : Hid (Str w11 w.heap.size w1.heap.size N10 fx10 nd10 Fp10) := a1.keep cp (fun x hx hf => by
    rcases a11 x hf with h | h
    · have := hF5 _ h; omega
    · have h' : w9.heap.size ≤ x := h
      omega)
  have c11 : Hid (Chg (fun x => w.heap.size ≤ x) w w11) := ((c49.drew).andThen a10 (fun x hx _ => by
    rcases hx with h | h | h
    · exact (hF5 _ h).1
    · omega
    · have h' : w9.heap.size ≤ x := h
      have := c49.size
      omega)).andThen cp (fun x hx _ => by omega)
  have wfs := wf5.move hN5.1 a6
  have wf10 : Hid (Wf nd10 N10 h10 r10 ∧ Wf nd10 N10 h5 r5 ∧ N10 ≤ 400000 ∧ (∀ x, x < 256 → ((view nd10 h10 r10 x : Nat) : Int) = mk (fun i => Ch (k + i)) (fun i => Pl (k + i)) (mk Ch Pl (fun _ => 0) k) (len - k) x % 4294967296) ∧ ∀ x, x < 256 → ((view nd10 h5 r5 x : Nat) : Int) = mk Ch Pl (fun _ => 0) k x % 4294967296) :=
    ⟨a7.wf, wfs.1.mono (by omega), by omega, a8, fun x hx => by rw [wf5.view hN5.1 a6 x]; exact v5 x hx⟩
  have hM5 : Hid (∀ x, -2147483648 ≤ mk Ch Pl (fun _ => 0) k x ∧ mk Ch Pl (fun _ => 0) k x ≤ 2147483647) := fun x => mk_range k (fun i hi => hrg.out i (by omega)) x (by constructor <;> omega)
  have hM10 : Hid (∀ x, -2147483648 ≤ mk (fun i => Ch (k + i)) (fun i => Pl (k + i)) (mk Ch Pl (fun _ => 0) k) (len - k) x ∧ mk (fun i => Ch (k + i)) (fun i => Pl (k + i)) (mk Ch Pl (fun _ => 0) k) (len - k) x ≤ 2147483647) := fun x => mk_range (len - k) (fun i hi => hrg.out (k + i) (by omega)) x (hM5.out x)
  generalize mk (fun i => Ch (k + i)) (fun i => Pl (k + i)) (mk Ch Pl (fun _ => 0) k) (len - k) = M10 at *
  generalize mk Ch Pl (fun _ => 0) k = M5 at *
  clear hw11 cp a1 a2 a3 a4 a5 a6 a7 a8 a9 a10 a11 q9 q10 rm2 c49 hF5 wf5 z5 v5 hnf wfs g0 g1 f0 f1 e0 e1 e9 e9' HB HQ hb2 hkeep hst HG1 HG2
  simp only [Exit.then, Exit.inBlock]
  rw [← HW11.out]
  go_wp2_with fail
  go_loopw [11] (fun x wr => ∃ t : Nat, t ≤ 256 ∧ x = .int .i32 t ∧ Hid (Chg (fun _ => False) w11 wr)) (fun x _ => 256 - (intOf x).toNat)
  case atStart => exact ⟨0, by omega, rfl, Chg.refl _ _⟩
  case round =>
    obtain ⟨t, ht, rfl, HK⟩ := hrel
    rcases (by omega : t < 256 ∨ t = 256) with h1 | h1
    · have hd : decide ((t : Int) < 256) = true := by simp; omega
      have hi0 : (0 : Int) ≤ (t : Int) := by omega
      have hi1 : (t : Int) < 256 := by omega
      have cells : Hid (∀ W, Chg (fun _ => False) w11 W → W.cell? ⟨w5.heap.size, 0, none⟩ = some (.int .u32 r10) ∧ W.cell? ⟨w5.heap.size, 1, none⟩ = some (.int .i32 h10) ∧ W.cell? ⟨w5.heap.size + 1, 0, none⟩ = some (.int .u32 r5) ∧ W.cell? ⟨w5.heap.size + 1, 1, none⟩ = some (.int .i32 h5) ∧ W.cell? ⟨w1.heap.size + 1, t, none⟩ = some (.int .i32 (M10 t)) ∧ W.cell? ⟨w1.heap.size + 1 + 1, t, none⟩ = some (.int .i32 (M5 t))) := fun W hk =>
        ⟨(hk.row p9.out (fun x => x)).cell (i := 0) (by omega), (hk.row p9.out (fun x => x)).cell (i := 1) (by omega), (hk.row p10.out (fun x => x)).cell (i := 0) (by omega), (hk.row p10.out (fun x => x)).cell (i := 1) (by omega), (hk.row pm1.out (fun x => x)).cell (i := t) (by omega), (hk.row pm2.out (fun x => x)).cell (i := t) (by omega)⟩
      have get1 : Hid (∀ W, Chg (fun _ => False) w11 W → Calls Yba.prog 11 #[.pointer (some ⟨w1.heap.size, 0, none⟩), .agg #[.int .u32 r10, .int .i32 h10], .int .i32 t] W fun e w' => e = .returned (.int .i32 (M10 t)) ∧ Chg (fun _ => False) w11 w') := fun W hk =>
        (get_view r10 h10 t (M10 t) W (s11.out.grow hk) wf10.out.2.2.1 (by omega) (by omega) wf10.out.1 (wf10.out.2.2.2.1 t h1) (hM10.out t)).mono (fun e w' h => ⟨h.1, hk.trans h.2⟩)
      have get2 : Hid (∀ W, Chg (fun _ => False) w11 W → Calls Yba.prog 11 #[.pointer (some ⟨w1.heap.size, 0, none⟩), .agg #[.int .u32 r5, .int .i32 h5], .int .i32 t] W fun e w' => e = .returned (.int .i32 (M5 t)) ∧ Chg (fun _ => False) w11 w') := fun W hk =>
        (get_view r5 h5 t (M5 t) W (s11.out.grow hk) wf10.out.2.2.1 (by omega) (by omega) wf10.out.2.1 (wf10.out.2.2.2.2 t h1) (hM5.out t)).mono (fun e w' h => ⟨h.1, hk.trans h.2⟩)
      generalize M10 t = m10 at cells get1
      generalize M5 t = m5 at cells get2
      obtain ⟨k0, k1, k2, k3, k4, k5⟩ := cells.out wr HK.out
      go_wp2_with fail
      go_region_held3 (fun w' => w'.cell? ⟨w5.heap.size, 0, none⟩ = some (.int .u32 r10) ∧ w'.cell? ⟨w5.heap.size, 1, none⟩ = some (.int .i32 h10) ∧ w'.cell? ⟨w1.heap.size + 1, t, none⟩ = some (.int .i32 m10)) (go_keep) ((go_at_call 11; refine Calls.mono (get1.out wr.drew HK.out.drew) ?_; rintro e w' ⟨rfl, hk'⟩; obtain ⟨l0, l1, l2, l3, l4, l5⟩ := cells.out w' hk'; have HK' : Hid (Chg (fun _ => False) w11 w') := hk'; clear hk'))
      go_wp2_with fail
      go_region_held3 (fun w' => w'.cell? ⟨w5.heap.size + 1, 0, none⟩ = some (.int .u32 r5) ∧ w'.cell? ⟨w5.heap.size + 1, 1, none⟩ = some (.int .i32 h5) ∧ w'.cell? ⟨w1.heap.size + 1 + 1, t, none⟩ = some (.int .i32 m5)) (go_keep) ((go_at_call 11; refine Calls.mono (get2.out w'.drew HK'.out.drew) ?_; rintro e w'' ⟨rfl, hk''⟩; obtain ⟨j0, j1, j2, j3, j4, j5⟩ := cells.out w'' hk''; have HK'' : Hid (Chg (fun _ => False) w11 w'') := hk''; clear hk''))
      go_wp2_with fail
      exact ⟨⟨t + 1, by omega, by rw [show ((t + 1 : Nat) : Int) = (t : Int) + 1 by omega], HK''⟩, by simp only [intOf]; omega⟩
    · subst h1
      go_wp2_with fail
      go_ret
      exact ⟨rfl, ((c11.out.andThen HK.out (fun _ x _ => x.elim))).below (Nat.le_refl _) (fun b hb => by omega)⟩

set_option maxHeartbeats 400000 in
theorem model_zero (ad : Addr) (sn : Nat) (hsn : sn ≤ 65535) (sb so len cap : Nat) (Ch : Nat → Nat) (Pl : Nat → Int) (Fx : Nat → Bool) (w : World)
    (hst : Hid (∀ i, i < len → w.cell? ⟨sb, so + i * 3, none⟩ = some (.int .u8 (Ch i)) ∧ w.cell? ⟨sb, so + i * 3 + 1, none⟩ = some (.int .i32 (Pl i)) ∧ w.cell? ⟨sb, so + i * 3 + 1 + 1, none⟩ = some (.bool (Fx i)) ∧ Ch i ≤ 255 ∧ -2147483648 ≤ Pl i ∧ Pl i ≤ 2147483647))
    (hlen : len ≤ 1024) (hlc : len ≤ cap) (hl0 : Hid (len = 0)) :
    Calls Yba.prog 4 #[.slice (some ad) len cap, .int .u16 sn] w fun e w' => e = .returned (.bool true) ∧ Below w.heap.size w w' := by
  have hd1024 : decide ((1024 : Int) < (len : Int)) = false := by simp; omega
  have hnew := (show Hid _ from new_any w)
  obtain ⟨Z, hal, hrz⟩ := al53
  obtain ⟨k, hk⟩ : ∃ k : Nat, k = sn % (len + 1) := ⟨_, rfl⟩
  have hk1 : k ≤ len := by have := Nat.mod_lt sn (show 0 < len + 1 by omega); omega
  have hmod : Int.tmod (sn : Int) ((len : Int) + 1) = (k : Int) := by rw [hk, Int.tmod_eq_emod_of_nonneg (by omega)]; push_cast; rfl
  have HRZ := (show Hid _ from hrz)
  clear hrz hk
  go_enter Yba.func4, Yba.ntmps4
  go_wp2_with fail
  refine Calls.mono hnew.out ?_
  rintro e w1 ⟨lv, ll, cb, nd, rfl, hS, hll, hz, hc1⟩
  obtain ⟨ao, lc, rfl⟩ := ownsRow_slice hS.own
  obtain ⟨Fp, hstr, hFp⟩ := start_str hS hll hc1
  obtain ⟨W4, hW4⟩ : ∃ W4, W4 = ((w1.alloc (.cells #[.slice ao ll lc, .int .u32 1, .int .u32 1] 51)).alloc (.cells Z 53)).alloc (.cells Z 53) := ⟨_, rfl⟩
  have HW4 : Hid (W4 = ((w1.alloc (.cells #[.slice ao ll lc, .int .u32 1, .int .u32 1] 51)).alloc (.cells Z 53)).alloc (.cells Z 53)) := hW4
  have hsz1 := hc1.size
  have sz4 : W4.heap.size = w1.heap.size + 3 := by rw [hW4]; simp
  have rm1 : W4.rowIs (w1.heap.size + 1) 53 256 (fun _ => .int .i32 0) := by
    have := HRZ.out (w1.alloc (.cells #[.slice ao ll lc, .int .u32 1, .int .u32 1] 51))
    rw [show (w1.alloc (.cells #[.slice ao ll lc, .int .u32 1, .int .u32 1] 51)).heap.size = w1.heap.size + 1 by simp] at this
    rw [hW4]; exact ((Chg.refl (fun _ => False) _).alloc _).row this (fun x => x)
  have rm2 : W4.rowIs (w1.heap.size + 2) 53 256 (fun _ => .int .i32 0) := by
    have := HRZ.out ((w1.alloc (.cells #[.slice ao ll lc, .int .u32 1, .int .u32 1] 51)).alloc (.cells Z 53))
    rw [show ((w1.alloc (.cells #[.slice ao ll lc, .int .u32 1, .int .u32 1] 51)).alloc (.cells Z 53)).heap.size = w1.heap.size + 2 by simp] at this
    rw [hW4]; exact this
  have hs4 : Str W4 w.heap.size w1.heap.size 1 1 nd Fp := by rw [hW4]; exact hstr.grow (((Chg.refl _ _).alloc _).alloc _)
  have hc4 : Chg (fun _ => False) w W4 := by rw [hW4]; exact ((hc1.alloc _).alloc _).alloc _
  have hst4 : ∀ i, i < len → W4.cell? ⟨sb, so + i * 3, none⟩ = some (.int .u8 (Ch i)) ∧ W4.cell? ⟨sb, so + i * 3 + 1, none⟩ = some (.int .i32 (Pl i)) ∧ W4.cell? ⟨sb, so + i * 3 + 1 + 1, none⟩ = some (.bool (Fx i)) ∧ Ch i ≤ 255 ∧ -2147483648 ≤ Pl i ∧ Pl i ≤ 2147483647 ∧ sb < w.heap.size := by
    intro i hi
    obtain ⟨s0, s1, s2, s3⟩ := hst.out i hi
    have hl : sb < w.heap.size := World.block_lt_of_cell? w _ s0
    exact ⟨by rw [hc4.cell hl (fun x => x)]; exact s0, by rw [hc4.cell hl (fun x => x)]; exact s1, by rw [hc4.cell hl (fun x => x)]; exact s2, s3.1, s3.2.1, s3.2.2, hl⟩
  have hb1 := (show Hid _ from build_any (mb := w1.heap.size + 1) (some ad) sb so k cap Ch Pl Fx (fun _ => 0) W4 1 1 nd (fun _ => (0, 0)) Fp 0 0 (fun i hi => by
    have := hl0.out
    omega) (by omega) hs4 hz (by omega) (by omega) (by omega) (by omega) (Tree.zero (by omega) (by omega) _ _) (fun x _ => by rw [view_zero hz]; rfl) rm1 (fun hf => by have := (hFp _ hf).2; omega))
  have HX : Hid (Chg (fun _ => False) w W4 ∧ W4.rowIs (w1.heap.size + 2) 53 256 (fun _ => .int .i32 0) ∧ (∀ x, Fp x → w.heap.size ≤ x ∧ x ≤ w1.heap.size)) := ⟨hc4, rm2, hFp⟩
  have HST := (show Hid _ from hst4)
  clear hS hc1 hnew hstr hFp hW4 rm1 rm2 hs4 hc4 hst4 hz hll HRZ
  go_wp2_with (with_reducible refine wpList_alloc_run _ rfl 53 rfl _ _ (hal _) ?_)
  rw [← HW4.out]
  refine Calls.mono hb1.out ?_
  rintro e w5 ⟨r5, h5, rfl, hh5, nd5, N5, fx5, pos5, Fp5, a1, a2, a3, a4, a5, a6, a7, a8, a9, a10, a11⟩
  -- the snapshot
  obtain ⟨hx1, hx2, hx3⟩ := HX.out
  have sz5 := a10.size
  have hFp5 : ∀ x, Fp5 x → w.heap.size ≤ x ∧ (x ≤ w1.heap.size ∨ W4.heap.size ≤ x) ∧ x < w5.heap.size := fun x hx => by
    have h1 := a1.lt hx
    rcases a11 x hx with h | h
    · have := hx3 x h; omega
    · omega
  obtain ⟨w6, hw6⟩ : ∃ w6, w6 = w5.alloc (.cells #[.int .u32 r5, .int .i32 h5] 55) := ⟨_, rfl⟩
  have HW6 : Hid (w6 = w5.alloc (.cells #[.int .u32 r5, .int .i32 h5] 55)) := hw6
  have c56 : Chg (fun _ => False) w5 w6 := by rw [hw6]; exact (Chg.refl _ _).alloc _
  have sz6 : w6.heap.size = w5.heap.size + 1 := by rw [hw6]; simp
  have p9 : w6.rowIs w5.heap.size 55 2 (pair r5 h5) := by rw [hw6]; exact pair_new w5 r5 h5
  have hfix := (show Hid _ from fix_str w6 (a1.grow c56))
  have s7 := (a1.grow c56).fixed
  obtain ⟨w7, hw7⟩ : ∃ w7, w7 = w6.setCell ⟨w1.heap.size, 2, none⟩ (.int .u32 (N5 : Int)) := ⟨_, rfl⟩
  rw [← hw7] at s7
  have HW7 : Hid (w7 = w6.setCell ⟨w1.heap.size, 2, none⟩ (.int .u32 (N5 : Int))) := hw7
  have c67 : Chg (fun x => x = w1.heap.size) w6 w7 := by rw [hw7]; exact (Chg.refl (fun x => x = w1.heap.size) w6).setCell (p := ⟨w1.heap.size, 2, none⟩) (fun _ => rfl) _
  have sz7 : w7.heap.size = w5.heap.size + 1 := by rw [hw7]; simp [sz6]
  have p9' : w7.rowIs w5.heap.size 55 2 (pair r5 h5) := c67.row p9 (by omega)
  have e0 : w7.cell? ⟨w5.heap.size, 0, none⟩ = some (.int .u32 r5) := p9'.cell (i := 0) (by omega)
  have e1 : w7.cell? ⟨w5.heap.size, 1, none⟩ = some (.int .i32 h5) := p9'.cell (i := 1) (by omega)
  obtain ⟨w8, hw8⟩ : ∃ w8, w8 = w7.alloc (.cells #[.int .u32 r5, .int .i32 h5] 55) := ⟨_, rfl⟩
  have HW8 : Hid (w8 = w7.alloc (.cells #[.int .u32 r5, .int .i32 h5] 55)) := hw8
  have c78 : Chg (fun _ => False) w7 w8 := by rw [hw8]; exact (Chg.refl _ _).alloc _
  have rm1 : w8.rowIs (w1.heap.size + 1) 53 256 (fun i => .int .i32 (mk Ch Pl (fun _ => 0) k i)) := c78.row (c67.row (c56.row a9 (fun x => x)) (by omega)) (fun x => x)
  have rm2 : w8.rowIs (w1.heap.size + 1 + 1) 53 256 (fun _ => .int .i32 0) := c78.row (c67.row (c56.row (a10.row hx2 (fun hx => by
    rcases hx with h | h | h
    · have := (hx3 _ h).2; omega
    · omega
    · omega)) (fun x => x)) (by omega)) (fun x => x)
  obtain ⟨c, hc, hcs, hci⟩ := rm1
  obtain ⟨old, hold, holds, holdi⟩ := rm2
  have hu : Hid (Yba.prog.underlying 53 = some (.array 256 21)) := Yba.underlying53
  have hi0 : (Yba.prog.info? 53).map (·.size) = some c.size := by rw [hcs]; kernel_rfl
  have hi : Hid ((Yba.prog.info? 53).map (·.size) = some c.size) := hi0
  clear hi0
  have h1c : Hid (c.all (·.oneCell') = true) := by
    rw [Hid]
    rw [Array.all_eq_true]
    intro i hi
    have := hci i (by omega)
    rw [Array.getElem?_eq_getElem hi] at this
    simp only [Option.some.injEq] at this
    rw [this]; rfl
  have HG1 : Hid ((w7.alloc (.cells #[.int .u32 r5, .int .i32 h5] 55)).heap[w1.heap.size + 1]? = some (.cells c 53)) := by rw [← hw8]; exact hc
  have HG2 : Hid ((w7.alloc (.cells #[.int .u32 r5, .int .i32 h5] 55)).heap[w1.heap.size + 1 + 1]? = some (.cells old 53)) := by rw [← hw8]; exact hold
  have HO : Hid (old.size = c.size) := by rw [hcs, holds]; exact rfl
  obtain ⟨w9, hw9⟩ : ∃ w9, w9 = w8.setRow (w1.heap.size + 1 + 1) c := ⟨_, rfl⟩
  have HW9 : Hid (w9 = w8.setRow (w1.heap.size + 1 + 1) c) := hw9
  have c89 : Chg (fun x => x = w1.heap.size + 1 + 1) w8 w9 := by rw [hw9]; exact ⟨rfl, rfl, rfl, by simp, fun k _ hk => setRow_other _ _ _ _ hk⟩
  have rm2 : w9.rowIs (w1.heap.size + 1 + 1) 53 256 (fun i => .int .i32 (mk Ch Pl (fun _ => 0) k i)) := by rw [hw9]; exact ⟨c, setRow_heap _ _ old c 53 (0, 0) hold, hcs, hci⟩
  have rm1 : w9.rowIs (w1.heap.size + 1) 53 256 (fun i => .int .i32 (mk Ch Pl (fun _ => 0) k i)) := c89.row ⟨c, hc, hcs, hci⟩ (by omega)
  have q9 : w9.rowIs w5.heap.size 55 2 (pair r5 h5) := c89.row (c78.row p9' (fun x => x)) (by omega)
  have q10 : w9.rowIs (w5.heap.size + 1) 55 2 (pair r5 h5) := by
    have := pair_new w7 r5 h5
    rw [← hw8, sz7] at this
    exact c89.row this (by omega)
  have s9 : Str w9 w.heap.size w1.heap.size N5 N5 nd5 Fp5 := (s7.grow c78).keep c89 (fun x hx hf => by have := hFp5 x hf; omega)
  have c49 : Chg (fun x => w.heap.size ≤ x) w w9 := ((((hx1.mono (fun _ x => x.elim)).andThen a10 (fun x hx _ => by
    rcases hx with h | h | h
    · exact (hx3 x h).1
    · omega
    · omega)).andThen c56 (fun _ x _ => x.elim)).andThen c67 (fun x hx _ => by omega)).andThen ((c78.mono (T := fun x => w.heap.size ≤ x) (fun _ x => x.elim)).andThen c89 (fun x hx _ => by omega)) (fun x hx _ => hx)
  have sz9 : w9.heap.size = w5.heap.size + 2 := by rw [hw9]; simp [hw8, sz7]
  have e9 : w9.cell? ⟨w5.heap.size, 0, none⟩ = some (.int .u32 r5) := q9.cell (i := 0) (by omega)
  have e9' : w9.cell? ⟨w5.heap.size, 1, none⟩ = some (.int .i32 h5) := q9.cell (i := 1) (by omega)
  have hst9 : ∀ i, i < len → w9.cell? ⟨sb, so + i * 3, none⟩ = some (.int .u8 (Ch i)) ∧ w9.cell? ⟨sb, so + i * 3 + 1, none⟩ = some (.int .i32 (Pl i)) ∧ w9.cell? ⟨sb, so + i * 3 + 1 + 1, none⟩ = some (.bool (Fx i)) ∧ Ch i ≤ 255 ∧ -2147483648 ≤ Pl i ∧ Pl i ≤ 2147483647 ∧ sb < w.heap.size := by
    intro i hi
    obtain ⟨s0, s1, s2, s3⟩ := hst.out i hi
    have hl : sb < w.heap.size := World.block_lt_of_cell? w _ s0
    have hn : ¬ w.heap.size ≤ sb := by omega
    exact ⟨by rw [c49.cell hl hn]; exact s0, by rw [c49.cell hl hn]; exact s1, by rw [c49.cell hl hn]; exact s2, s3.1, s3.2.1, s3.2.2, hl⟩
  obtain ⟨sa', hsa⟩ : ∃ s, (if cap = k then some ad else some (ad.add (k * 3))) = s := ⟨_, rfl⟩
  have hb2 := (show Hid _ from build_any (mb := w1.heap.size + 1) sa' sb (so + k * 3) (len - k) (cap - k) (fun i => Ch (k + i)) (fun i => Pl (k + i)) (fun i => Fx (k + i)) (mk Ch Pl (fun _ => 0) k) w9.drew N5 N5 nd5 pos5 Fp5 r5 h5 (fun i hi => by
    have := hl0.out
    omega) (by omega) s9.drew a2 (by omega) (Nat.le_refl _) (by omega) hh5 (a7.wf.tree pos5 (Nat.le_refl _) (Nat.le_refl _)) a8 rm1 (fun hf => by have := hFp5 _ hf; omega))
  have HQ : Hid (w9.rowIs w5.heap.size 55 2 (pair r5 h5) ∧ w9.rowIs (w5.heap.size + 1) 55 2 (pair r5 h5) ∧ w9.rowIs (w1.heap.size + 1 + 1) 53 256 (fun i => .int .i32 (mk Ch Pl (fun _ => 0) k i)) ∧ Chg (fun x => w.heap.size ≤ x) w w9 ∧ (∀ x, Fp5 x → w.heap.size ≤ x ∧ (x ≤ w1.heap.size ∨ W4.heap.size ≤ x) ∧ x < w5.heap.size) ∧ Wf nd5 N5 h5 r5 ∧ Zero nd5 ∧ (∀ x, x < 256 → ((view nd5 h5 r5 x : Nat) : Int) = mk Ch Pl (fun _ => 0) k x % 4294967296)) := ⟨q9, q10, rm2, c49, hFp5, a7.wf, a2, a8⟩
  have hkeep : Hid (∀ w10, Chg (fun x => Fp5 x ∨ x = w1.heap.size + 1 ∨ w9.drew.heap.size ≤ x) w9.drew w10 → w10.rowIs w5.heap.size 55 2 (pair r5 h5)) := fun w10 hcg => hcg.row (show w9.drew.rowIs w5.heap.size 55 2 (pair r5 h5) from q9) (fun hx => by
    rcases hx with h | h | h
    · have := hFp5 _ h; omega
    · omega
    · have h' : w9.heap.size ≤ w5.heap.size := h
      omega)
  have hN5 : 0 < N5 ∧ N5 ≤ 1 + 8 * k := by omega
  have hrg : Hid (∀ i, i < len → -2147483648 ≤ Pl i ∧ Pl i ≤ 2147483647) := fun i hi => ⟨(hst9 i hi).2.2.2.2.1, (hst9 i hi).2.2.2.2.2.1⟩
  clear hb1 hw6 hw7 hw8 hw9 q9 q10 rm1 rm2 c49 hFp5 a1 a2 a3 a4 a5 a6 a7 a8 a9 a10 a11 hx1 hx2 hx3 HX HST c56 c67 c78 c89 p9 p9' s7 s9 hst9
  go_wp2_with fail
  rw [← HW6.out]
  refine Calls.mono hfix.out ?_
  rintro e w7' ⟨rfl, hw7'⟩
  rw [← HW7.out] at hw7'
  subst hw7'
  clear hc hold hcs holds hci holdi
  go_wp2_with (first | (with_reducible refine wpList_load_row rfl 53 (.tmp 6) rfl (w1.heap.size + 1) (by go_simp) 53 c (0, 0) _ HG1.out hu.out rfl hi.out ?_) | (with_reducible refine wpList_store_row rfl 53 (.tmp 7) (.tmp 29) rfl (w1.heap.size + 1 + 1) c (by go_simp) (by go_simp) 53 old HG2.out hi.out HO.out h1c.out ?_))
  rw [← HW8.out, ← HW9.out]
  go_region_with (go_at_call 9; refine Calls.mono hb2.out ?_; rintro e w10 ⟨r10, h10, rfl, hh10, hbi⟩; have HB : Hid _ := hbi; obtain ⟨nd10, N10, fx10, pos10, Fp10, _, _, _, _, _, _, _, _, _, hcg, _⟩ := hbi; have q9' := hkeep.out _ hcg; have g0 : w10.cell? ⟨w5.heap.size, 0, none⟩ = some (.int .u32 r5) := q9'.cell (i := 0) (by omega); have g1 : w10.cell? ⟨w5.heap.size, 1, none⟩ = some (.int .i32 h5) := q9'.cell (i := 1) (by omega); have f0 := q9'.frozen 0; have f1 := q9'.frozen 1; have HQ9 : Hid (w10.rowIs w5.heap.size 55 2 (pair r5 h5)) := q9'; clear q9' hcg)
  obtain ⟨nd10, N10, fx10, pos10, Fp10, a1, a2, a3, a4, a5, a6, a7, a8, a9, a10, a11⟩ := HB.out
  obtain ⟨q9, q10, rm2, c49, hF5, wf5, z5, v5⟩ := HQ.out
  obtain ⟨w11, hw11⟩ : ∃ w11, w11 = (w10.setCell ⟨w5.heap.size, 0, none⟩ (.int .u32 r10)).setCell ⟨w5.heap.size, 1, none⟩ (.int .i32 h10) := ⟨_, rfl⟩
  have HW11 : Hid (w11 = (w10.setCell ⟨w5.heap.size, 0, none⟩ (.int .u32 r10)).setCell ⟨w5.heap.size, 1, none⟩ (.int .i32 h10)) := hw11
  have cp : Chg (fun x => x = w5.heap.size) w10 w11 := by rw [hw11]; exact chg_pair _ _ _ _
  have a10s : w9.heap.size ≤ w10.heap.size := a10.size
  have hnf : ∀ x, x = w5.heap.size ∨ x = w5.heap.size + 1 ∨ x = w1.heap.size + 1 + 1 → ¬ (Fp5 x ∨ x = w1.heap.size + 1 ∨ w9.drew.heap.size ≤ x) := by
    intro x hx hh
    rcases hh with h | h | h
    · have := hF5 _ h; omega
    · omega
    · have h' : w9.heap.size ≤ x := h
      omega
  have p9 : Hid (w11.rowIs w5.heap.size 55 2 (pair r10 h10)) := by rw [hw11]; exact pair_set HQ9.out r10 h10
  have p10 : Hid (w11.rowIs (w5.heap.size + 1) 55 2 (pair r5 h5)) := cp.row (a10.row (show w9.drew.rowIs (w5.heap.size + 1) 55 2 (pair r5 h5) from q10) (hnf _ (by omega))) (by omega)
  have pm1 : Hid (w11.rowIs (w1.heap.size + 1) 53 256 (fun i => .int .i32 (mk (fun i => Ch (k + i)) (fun i => Pl (k + i)) (mk Ch Pl (fun _ => 0) k) (len - k) i))) := cp.row a9 (by omega)
  have pm2 : Hid (w11.rowIs (w1.heap.size + 1 + 1) 53 256 (fun i => .int .i32 (mk Ch Pl (fun _ => 0) k i))) := cp.row (a10.row (show w9.drew.rowIs (w1.heap.size + 1 + 1) 53 256 _ from rm2) (hnf _ (by omega))) (by omega)
  have s11 : Hid (Str w11 w.heap.size w1.heap.size N10 fx10 nd10 Fp10) := a1.keep cp (fun x hx hf => by
    rcases a11 x hf with h | h
    · have := hF5 _ h; omega
    · have h' : w9.heap.size ≤ x := h
      omega)
  have c11 : Hid (Chg (fun x => w.heap.size ≤ x) w w11) := ((c49.drew).andThen a10 (fun x hx _ => by
    rcases hx with h | h | h
    · exact (hF5 _ h).1
    · omega
    · have h' : w9.heap.size ≤ x := h
      have := c49.size
      omega)).andThen cp (fun x hx _ => by omega)
  have wfs := wf5.move hN5.1 a6
  have wf10 : Hid (Wf nd10 N10 h10 r10 ∧ Wf nd10 N10 h5 r5 ∧ N10 ≤ 400000 ∧ (∀ x, x < 256 → ((view nd10 h10 r10 x : Nat) : Int) = mk (fun i => Ch (k + i)) (fun i => Pl (k + i)) (mk Ch Pl (fun _ => 0) k) (len - k) x % 4294967296) ∧ ∀ x, x < 256 → ((view nd10 h5 r5 x : Nat) : Int) = mk Ch Pl (fun _ => 0) k x % 4294967296) :=
    ⟨a7.wf, wfs.1.mono (by omega), by omega, a8, fun x hx => by rw [wf5.view hN5.1 a6 x]; exact v5 x hx⟩
  have hM5 : Hid (∀ x, -2147483648 ≤ mk Ch Pl (fun _ => 0) k x ∧ mk Ch Pl (fun _ => 0) k x ≤ 2147483647) := fun x => mk_range k (fun i hi => hrg.out i (by omega)) x (by constructor <;> omega)
  have hM10 : Hid (∀ x, -2147483648 ≤ mk (fun i => Ch (k + i)) (fun i => Pl (k + i)) (mk Ch Pl (fun _ => 0) k) (len - k) x ∧ mk (fun i => Ch (k + i)) (fun i => Pl (k + i)) (mk Ch Pl (fun _ => 0) k) (len - k) x ≤ 2147483647) := fun x => mk_range (len - k) (fun i hi => hrg.out (k + i) (by omega)) x (hM5.out x)
  generalize mk (fun i => Ch (k + i)) (fun i => Pl (k + i)) (mk Ch Pl (fun _ => 0) k) (len - k) = M10 at *
  generalize mk Ch Pl (fun _ => 0) k = M5 at *
  clear hw11 cp a1 a2 a3 a4 a5 a6 a7 a8 a9 a10 a11 q9 q10 rm2 c49 hF5 wf5 z5 v5 hnf wfs g0 g1 f0 f1 e0 e1 e9 e9' HB HQ hb2 hkeep hst HG1 HG2
  simp only [Exit.then, Exit.inBlock]
  rw [← HW11.out]
  go_wp2_with fail
  go_loopw [11] (fun x wr => ∃ t : Nat, t ≤ 256 ∧ x = .int .i32 t ∧ Hid (Chg (fun _ => False) w11 wr)) (fun x _ => 256 - (intOf x).toNat)
  case atStart => exact ⟨0, by omega, rfl, Chg.refl _ _⟩
  case round =>
    obtain ⟨t, ht, rfl, HK⟩ := hrel
    rcases (by omega : t < 256 ∨ t = 256) with h1 | h1
    · have hd : decide ((t : Int) < 256) = true := by simp; omega
      have hi0 : (0 : Int) ≤ (t : Int) := by omega
      have hi1 : (t : Int) < 256 := by omega
      have cells : Hid (∀ W, Chg (fun _ => False) w11 W → W.cell? ⟨w5.heap.size, 0, none⟩ = some (.int .u32 r10) ∧ W.cell? ⟨w5.heap.size, 1, none⟩ = some (.int .i32 h10) ∧ W.cell? ⟨w5.heap.size + 1, 0, none⟩ = some (.int .u32 r5) ∧ W.cell? ⟨w5.heap.size + 1, 1, none⟩ = some (.int .i32 h5) ∧ W.cell? ⟨w1.heap.size + 1, t, none⟩ = some (.int .i32 (M10 t)) ∧ W.cell? ⟨w1.heap.size + 1 + 1, t, none⟩ = some (.int .i32 (M5 t))) := fun W hk =>
        ⟨(hk.row p9.out (fun x => x)).cell (i := 0) (by omega), (hk.row p9.out (fun x => x)).cell (i := 1) (by omega), (hk.row p10.out (fun x => x)).cell (i := 0) (by omega), (hk.row p10.out (fun x => x)).cell (i := 1) (by omega), (hk.row pm1.out (fun x => x)).cell (i := t) (by omega), (hk.row pm2.out (fun x => x)).cell (i := t) (by omega)⟩
      have get1 : Hid (∀ W, Chg (fun _ => False) w11 W → Calls Yba.prog 11 #[.pointer (some ⟨w1.heap.size, 0, none⟩), .agg #[.int .u32 r10, .int .i32 h10], .int .i32 t] W fun e w' => e = .returned (.int .i32 (M10 t)) ∧ Chg (fun _ => False) w11 w') := fun W hk =>
        (get_view r10 h10 t (M10 t) W (s11.out.grow hk) wf10.out.2.2.1 (by omega) (by omega) wf10.out.1 (wf10.out.2.2.2.1 t h1) (hM10.out t)).mono (fun e w' h => ⟨h.1, hk.trans h.2⟩)
      have get2 : Hid (∀ W, Chg (fun _ => False) w11 W → Calls Yba.prog 11 #[.pointer (some ⟨w1.heap.size, 0, none⟩), .agg #[.int .u32 r5, .int .i32 h5], .int .i32 t] W fun e w' => e = .returned (.int .i32 (M5 t)) ∧ Chg (fun _ => False) w11 w') := fun W hk =>
        (get_view r5 h5 t (M5 t) W (s11.out.grow hk) wf10.out.2.2.1 (by omega) (by omega) wf10.out.2.1 (wf10.out.2.2.2.2 t h1) (hM5.out t)).mono (fun e w' h => ⟨h.1, hk.trans h.2⟩)
      generalize M10 t = m10 at cells get1
      generalize M5 t = m5 at cells get2
      obtain ⟨k0, k1, k2, k3, k4, k5⟩ := cells.out wr HK.out
      go_wp2_with fail
      go_region_held3 (fun w' => w'.cell? ⟨w5.heap.size, 0, none⟩ = some (.int .u32 r10) ∧ w'.cell? ⟨w5.heap.size, 1, none⟩ = some (.int .i32 h10) ∧ w'.cell? ⟨w1.heap.size + 1, t, none⟩ = some (.int .i32 m10)) (go_keep) ((go_at_call 11; refine Calls.mono (get1.out wr.drew HK.out.drew) ?_; rintro e w' ⟨rfl, hk'⟩; obtain ⟨l0, l1, l2, l3, l4, l5⟩ := cells.out w' hk'; have HK' : Hid (Chg (fun _ => False) w11 w') := hk'; clear hk'))
      go_wp2_with fail
      go_region_held3 (fun w' => w'.cell? ⟨w5.heap.size + 1, 0, none⟩ = some (.int .u32 r5) ∧ w'.cell? ⟨w5.heap.size + 1, 1, none⟩ = some (.int .i32 h5) ∧ w'.cell? ⟨w1.heap.size + 1 + 1, t, none⟩ = some (.int .i32 m5)) (go_keep) ((go_at_call 11; refine Calls.mono (get2.out w'.drew HK'.out.drew) ?_; rintro e w'' ⟨rfl, hk''⟩; obtain ⟨j0, j1, j2, j3, j4, j5⟩ := cells.out w'' hk''; have HK'' : Hid (Chg (fun _ => False) w11 w'') := hk''; clear hk''))
      go_wp2_with fail
      exact ⟨⟨t + 1, by omega, by rw [show ((t + 1 : Nat) : Int) = (t : Int) + 1 by omega], HK''⟩, by simp only [intOf]; omega⟩
    · subst h1
      go_wp2_with fail
      go_ret
      exact ⟨rfl, ((c11.out.andThen HK.out (fun _ x _ => x.elim))).below (Nat.le_refl _) (fun b hb => by omega)⟩
end Go.Proofs.Ybulkcqyu
