/-
  zzs4635cbuild (9), walked.
-/
import Derived.Test.YbulkcqyuCNew
namespace Go.Proofs.Ybulkcqyu
set_option linter.unusedVariables false
set_option linter.unusedSimpArgs false
open Go.RowKit Go.Deep

/-- the model behind k steps -/
def mk (Ch : Nat → Nat) (Pl : Nat → Int) (M : Nat → Int) : Nat → Nat → Int
  | 0, x => M x
  | k + 1, x => if x = Ch k then Pl k else mk Ch Pl M k x
theorem Str.fixed {w : World} {base b N fx : Nat} {nd : Nat → Nat → Nat} {Fp : Nat → Prop} (h : Str w base b N fx nd Fp) : Str (w.setCell ⟨b, 2, none⟩ (.int .u32 ((N : Nat) : Int))) base b N N nd Fp := by
  obtain ⟨lv, ll, cb, hs, hf, hb, hll⟩ := h
  refine ⟨lv, ll, cb, hs.fixed, hf, ?_, hll⟩
  have : (w.setCell ⟨b, 2, none⟩ (.int .u32 ((N : Nat) : Int))).heap.size = w.heap.size := by simp
  rw [this]; exact hb
theorem fix_str {base b N fx : Nat} {nd : Nat → Nat → Nat} {Fp : Nat → Prop} (w : World) (h : Str w base b N fx nd Fp) :
    Calls Yba.prog 10 #[.pointer (some ⟨b, 0, none⟩)] w fun e w' => e = .returned (.tuple #[]) ∧ w' = w.setCell ⟨b, 2, none⟩ (.int .u32 (N : Int)) := by
  obtain ⟨lv, ll, cb, hs, hf, hb, hll⟩ := h
  exact fix_any w hs

/-- what a script has done so far -/
def BuildInv (w wr : World) (base b mb N fx : Nat) (nd : Nat → Nat → Nat) (Fp : Nat → Prop) (h n : Nat) (lim : Nat) (M : Nat → Int) : Prop :=
  ∃ nd' N' fx' pos' Fp', Str wr base b N' fx' nd' Fp' ∧ Zero nd' ∧ fx ≤ fx' ∧ fx' ≤ N' ∧ N' ≤ N + 8 * lim ∧ (∀ i, i < fx → ∀ j, nd' i j = nd i j) ∧ Tree nd' N' fx' pos' h 0 n ∧ (∀ x, x < 256 → ((view nd' h n x : Nat) : Int) = M x % 4294967296) ∧
    wr.rowIs mb 53 256 (fun i => .int .i32 (M i)) ∧ Chg (fun x => Fp x ∨ x = mb ∨ w.heap.size ≤ x) w wr ∧ ∀ x, Fp' x → Fp x ∨ w.heap.size ≤ x

set_option maxHeartbeats 400000 in
theorem build_any {base b mb : Nat} (sa : Option Addr) (sb so len cap : Nat) (Ch : Nat → Nat) (Pl : Nat → Int) (Fx : Nat → Bool) (M : Nat → Int) (w : World) (N fx : Nat) (nd : Nat → Nat → Nat) (pos : Nat → Nat × Nat) (Fp : Nat → Prop) (n h : Nat)
    (hst : Hid (∀ i, i < len → sa = some ⟨sb, so, none⟩ ∧ w.cell? ⟨sb, so + i * 3, none⟩ = some (.int .u8 (Ch i)) ∧ w.cell? ⟨sb, so + i * 3 + 1, none⟩ = some (.int .i32 (Pl i)) ∧ w.cell? ⟨sb, so + i * 3 + 1 + 1, none⟩ = some (.bool (Fx i)) ∧ Ch i ≤ 255 ∧ -2147483648 ≤ Pl i ∧ Pl i ≤ 2147483647 ∧ sb ≠ mb ∧ ¬ Fp sb))
    (hlen : len ≤ 1024) (H : Hid (Str w base b N fx nd Fp)) (z : Zero nd) (hfx : 0 < fx) (hfN : fx ≤ N) (hN : N + 8 * len < 300000) (hh : h ≤ 3) (t : Tree nd N fx pos h 0 n) (hv : Hid (∀ x, x < 256 → ((view nd h n x : Nat) : Int) = M x % 4294967296))
    (hm : Hid (w.rowIs mb 53 256 (fun i => .int .i32 (M i)))) (hmF : ¬ Fp mb) :
    Calls Yba.prog 9 #[.pointer (some ⟨b, 0, none⟩), .agg #[.int .u32 n, .int .i32 h], .slice sa len cap, .pointer (some ⟨mb, 0, none⟩)] w fun e w' => ∃ r h' : Nat, e = .returned (.agg #[.int .u32 r, .int .i32 h']) ∧ h' ≤ 3 ∧ BuildInv w w' base b mb N fx nd Fp h' r len (mk Ch Pl M len) := by
  obtain ⟨W, hW⟩ : ∃ W, W = (w.alloc (.cells #[.int .u32 n, .int .i32 h] 55)).alloc (.cells #[.int .u32 0, .int .i32 0] 55) := ⟨_, rfl⟩
  have HW : Hid (W = (w.alloc (.cells #[.int .u32 n, .int .i32 h] 55)).alloc (.cells #[.int .u32 0, .int .i32 0] 55)) := hW
  have hcW : Hid (Chg (fun _ => False) w W) := by rw [hW]; exact ((Chg.refl _ _).alloc _).alloc _
  have szW : W.heap.size = w.heap.size + 2 := by rw [hW]; simp
  have r0 : Hid (W.rowIs w.heap.size 55 2 (pair n h)) := by
    rw [hW]; exact ((Chg.refl (fun _ => False) _).alloc _).row (pair_new w n h) (fun x => x)
  have r1 : Hid (W.rowIs (w.heap.size + 1) 55 2 (pair 0 0)) := by
    have := pair_new (w.alloc (.cells #[.int .u32 n, .int .i32 h] 55)) 0 0
    rw [show (w.alloc (.cells #[.int .u32 n, .int .i32 h] 55)).heap.size = w.heap.size + 1 by simp] at this
    rw [hW]; exact this
  clear hW
  have hmlt : mb < w.heap.size := hm.out.lt
  have hwlt : Hid (∀ x, Fp x → x < w.heap.size) := fun x hx => H.out.lt hx
  go_enter Yba.func9, Yba.ntmps9
  go_wp2_with fail
  rw [← HW.out]
  go_loopw [14] (fun x wr => ∃ k n' h' : Nat, k ≤ len ∧ h' ≤ 3 ∧ x = .int .i64 k ∧ Hid (wr.rowIs w.heap.size 55 2 (pair n' h')) ∧ Hid (wr.rowIs (w.heap.size + 1) 55 2 (pair 0 0)) ∧ Hid (W.heap.size ≤ wr.heap.size ∧ ∃ nd' N' fx' pos' Fp', Str wr base b N' fx' nd' Fp' ∧ Zero nd' ∧ fx ≤ fx' ∧ fx' ≤ N' ∧ N' ≤ N + 8 * k ∧ (∀ i, i < fx → ∀ j, nd' i j = nd i j) ∧ Tree nd' N' fx' pos' h' 0 n' ∧ (∀ x, x < 256 → ((view nd' h' n' x : Nat) : Int) = mk Ch Pl M k x % 4294967296) ∧
    wr.rowIs mb 53 256 (fun i => .int .i32 (mk Ch Pl M k i)) ∧ Chg (fun x => Fp x ∨ x = mb ∨ w.heap.size ≤ x) w wr ∧ ∀ x, Fp' x → Fp x ∨ W.heap.size ≤ x)) (fun x _ => len - (intOf x).toNat)
  case atStart => exact ⟨0, n, h, by omega, hh, rfl, r0, r1, Nat.le_refl _, nd, N, fx, pos, Fp, H.out.grow hcW.out, z, Nat.le_refl _, hfN, by omega, fun _ _ _ => rfl, t, hv.out, hcW.out.row hm.out (fun x => x), hcW.out.mono (fun _ x => x.elim), fun _ hx => .inl hx⟩
  case round =>
    obtain ⟨k, n', h', hk, hh', rfl, q0, q1, HI⟩ := hrel
    have hkl : k < len ∨ k = len := by omega
    rcases hkl with hkl | hkl
    · have hdk : decide ((k : Int) < (len : Int)) = true := by simp; omega
      have HI' : Hid (∃ nd' N' fx' pos' Fp', Str wr base b N' fx' nd' Fp' ∧ Zero nd' ∧ fx ≤ fx' ∧ fx' ≤ N' ∧ N' ≤ N + 8 * k ∧ (∀ i, i < fx → ∀ j, nd' i j = nd i j) ∧ Tree nd' N' fx' pos' h' 0 n' ∧ (∀ x, x < 256 → ((view nd' h' n' x : Nat) : Int) = mk Ch Pl M k x % 4294967296) ∧
    wr.rowIs mb 53 256 (fun i => .int .i32 (mk Ch Pl M k i)) ∧ Chg (fun x => Fp x ∨ x = mb ∨ w.heap.size ≤ x) w wr ∧ ∀ x, Fp' x → Fp x ∨ W.heap.size ≤ x) := HI.out.2
      obtain ⟨rfl, s0, s1, s2, b1, b2, b3, b4, b5⟩ := hst.out k hkl
      have hgc : ∀ o v, w.cell? ⟨sb, o, none⟩ = some v → wr.cell? ⟨sb, o, none⟩ = some v := by
        obtain ⟨nd', N', fx', pos', Fp', _, _, _, _, _, _, _, _, _, hc, _⟩ := HI'.out
        intro o v hv
        have hl : sb < w.heap.size := World.block_lt_of_cell? w _ hv
        rw [hc.cell hl (fun hx => by rcases hx with h | h | h; exact b5 h; exact b4 h; exact absurd hl (by simp at h ⊢; omega))]; exact hv
      have t0 := hgc _ _ s0
      have t1 := hgc _ _ s1
      have t2 := hgc _ _ s2
      clear s0 s1 s2 hgc
      have hK : Hid (mk Ch Pl M (k + 1) = fun x => if x = Ch k then Pl k else mk Ch Pl M k x) := rfl
      have e0 : wr.cell? ⟨w.heap.size, 0, none⟩ = some (.int .u32 n') := q0.out.cell (i := 0) (by omega)
      have e1 : wr.cell? ⟨w.heap.size, 1, none⟩ = some (.int .i32 h') := q0.out.cell (i := 1) (by omega)
      have hlt : w.heap.size < wr.heap.size := q0.out.lt
      generalize Ch k = ch at *
      generalize Pl k = pl at *
      generalize Fx k = fxb at *
      obtain ⟨place, hpl⟩ : ∃ p : Nat, pl % 4294967296 = (p : Int) := ⟨(pl % 4294967296).toNat, by omega⟩
      obtain ⟨nd', N', fx', pos', Fp', a1, a2, a3, a4, a5, a6, a7, a8, a9, a10, a11⟩ := HI'.out
      obtain ⟨W1, hW1⟩ : ∃ W1, W1 = wr.alloc (.cells #[.int .u8 ch, .int .i32 pl, .bool fxb] 70) := ⟨_, rfl⟩
      have hk1 : Chg (fun _ => False) wr W1 := by rw [hW1]; exact (Chg.refl _ _).alloc _
      have sz1 : W1.heap.size = wr.heap.size + 1 := by rw [hW1]; simp
      have y1 : W1.cell? ⟨wr.heap.size, 1, none⟩ = some (.int .i32 pl) := by rw [hW1]; simp [go_sem]
      have y2 : W1.cell? ⟨wr.heap.size, 2, none⟩ = some (.bool fxb) := by rw [hW1]; simp [go_sem]
      have hset := (show Hid _ from set_any place hpl hh' b1 (by omega) W1 N' nd' pos' Fp' n' (a1.grow hk1) a2 a4 (by omega) a7)
      have HW1 : Hid (W1 = wr.alloc (.cells #[.int .u8 ch, .int .i32 pl, .bool fxb] 70)) := hW1
      have hF : ∀ x, Fp' x → x < wr.heap.size := fun x hx => a1.lt hx
      have HA : Hid ((∀ x, Fp' x → Fp x ∨ W.heap.size ≤ x) ∧ Zero nd' ∧ fx ≤ fx' ∧ fx' ≤ N' ∧ N' ≤ N + 8 * k ∧ (∀ i, i < fx → ∀ j, nd' i j = nd i j) ∧ (∀ x, x < 256 → ((view nd' h' n' x : Nat) : Int) = mk Ch Pl M k x % 4294967296) ∧ Chg (fun x => Fp x ∨ x = mb ∨ w.heap.size ≤ x) w W1 ∧ W1.rowIs mb 53 256 (fun i => .int .i32 (mk Ch Pl M k i))) := ⟨a11, a2, a3, a4, a5, a6, a8, a10.andThen hk1 (fun _ x _ => x.elim), hk1.row a9 (fun x => x)⟩
      have Q0 : Hid (W1.rowIs w.heap.size 55 2 (pair n' h')) := hk1.row q0.out (fun x => x)
      have Q1 : Hid (W1.rowIs (w.heap.size + 1) 55 2 (pair 0 0)) := hk1.row q1.out (fun x => x)
      have hWr : Hid (W.heap.size ≤ wr.heap.size) := HI.out.1
      clear a1 a2 a3 a4 a5 a6 a7 a8 a9 a10 a11 hW1 hk1 HI HI'
      go_wp2_with fail
      rw [← HW1.out]
      refine Calls.mono hset.out ?_
      rintro e w2 ⟨r, h2, rfl, hh2, nd2, N2, pos2, Fp2, o1, o2, o3, o4, o5, o6, o7⟩
      obtain ⟨u1, u2, u3, u4, u5, u6, u7, u8, u9⟩ := HA.out
      have hWr' := hWr.out
      have nf : ∀ x, x = mb ∨ x = w.heap.size ∨ x = w.heap.size + 1 ∨ x = wr.heap.size → ¬ Fp' x := by
        intro x hx hf
        have h1 := hF x hf
        rcases hx with rfl | rfl | rfl | rfl
        · rcases u1 _ hf with h2 | h2
          · exact hmF h2
          · omega
        · rcases u1 _ hf with h2 | h2
          · have := hwlt.out _ h2; omega
          · omega
        · rcases u1 _ hf with h2 | h2
          · have := hwlt.out _ h2; omega
          · omega
        · omega
      have nf2 : ∀ x, x = mb ∨ x = w.heap.size ∨ x = w.heap.size + 1 ∨ x = wr.heap.size → ¬ Fp2 x := fun x hx => o2.far (nf x hx) (by omega)
      obtain ⟨w3, hw3⟩ : ∃ w3, w3 = (w2.setCell ⟨w.heap.size, 0, none⟩ (.int .u32 r)).setCell ⟨w.heap.size, 1, none⟩ (.int .i32 h2) := ⟨_, rfl⟩
      have hcp : Chg (fun x => x = w.heap.size) w2 w3 := by rw [hw3]; exact chg_pair _ _ _ _
      have x0 : w2.rowIs w.heap.size 55 2 (pair n' h') := o2.1.row Q0.out (nf _ (by omega))
      have g0 : w2.cell? ⟨w.heap.size, 0, none⟩ = some (.int .u32 n') := x0.cell (i := 0) (by omega)
      have g1 : w2.cell? ⟨w.heap.size, 1, none⟩ = some (.int .i32 h') := x0.cell (i := 1) (by omega)
      have f0 := x0.frozen 0
      have f1 := x0.frozen 1
      have X0 : Hid (w3.rowIs w.heap.size 55 2 (pair r h2)) := by rw [hw3]; exact pair_set x0 r h2
      have X1 : Hid (w3.rowIs (w.heap.size + 1) 55 2 (pair 0 0)) := hcp.row (o2.1.row Q1.out (nf _ (by omega))) (by omega)
      have xm : w3.rowIs mb 53 256 (fun i => .int .i32 (mk Ch Pl M k i)) := hcp.row (o2.1.row u9 (nf _ (by omega))) (by omega)
      have y1' : w3.cell? ⟨wr.heap.size, 1, none⟩ = some (.int .i32 pl) := by
        have h12 := o2.1.size
        rw [hcp.cell (by show wr.heap.size < w2.heap.size; omega) (by show ¬ wr.heap.size = w.heap.size; omega), o2.1.cell (by show wr.heap.size < W1.heap.size; omega) (nf _ (by simp))]; exact y1
      have y2' : w3.cell? ⟨wr.heap.size, 2, none⟩ = some (.bool fxb) := by
        have h12 := o2.1.size
        rw [hcp.cell (by show wr.heap.size < w2.heap.size; omega) (by show ¬ wr.heap.size = w.heap.size; omega), o2.1.cell (by show wr.heap.size < W1.heap.size; omega) (nf _ (by simp))]; exact y2
      have zm := xm.cell (i := ch) (by omega)
      have zf := xm.frozen ch
      have XM : Hid (w3.rowIs mb 53 256 (fun i => .int .i32 (mk Ch Pl M k i))) := xm
      have HW3 : Hid (w3 = (w2.setCell ⟨w.heap.size, 0, none⟩ (.int .u32 r)).setCell ⟨w.heap.size, 1, none⟩ (.int .i32 h2)) := hw3
      have HS3 : Hid (Str w3 base b N2 fx' nd2 Fp2) := o1.keep hcp (fun x hx => nf2 x (by omega))
      have HC3 : Hid (Chg (fun x => Fp x ∨ x = mb ∨ w.heap.size ≤ x) w w3) := (u8.andThen o2.1 (fun x hx hlt => by rcases u1 x hx with h | h; exact .inl h; exact .inr (.inr (by omega)))).andThen hcp (fun x hx _ => .inr (.inr (by omega)))
      have NF2 : Hid (∀ x, x = mb ∨ x = w.heap.size ∨ x = w.heap.size + 1 ∨ x = wr.heap.size → ¬ Fp2 x) := nf2
      have HFt : Hid (∀ x, Fp2 x → Fp x ∨ W.heap.size ≤ x) := fun x hx => by
        rcases o2.2 x hx with h | h
        · exact u1 x h
        · exact .inr (by omega)
      have HB : Hid (N' ≤ N2 ∧ N2 ≤ N' + 8 ∧ (∀ i, i < fx' → ∀ j, nd2 i j = nd' i j) ∧ Tree nd2 N2 fx' pos2 h2 0 r ∧ ∀ x, x < 256 → view nd2 h2 r x = if x = ch then place else view nd' h' n' x) := ⟨o3, o4, o5, o6, o7⟩
      clear o1 o2 o3 o4 o5 o6 o7 u1 u2 u3 u4 u5 u6 u7 u8 u9 nf nf2 hw3 hcp x0 xm y1 y2 hset hF Q0 Q1 t0 t1 t2 e0 e1
      go_wp2_with fail
      rw [← HW3.out]
      have hne : mb ≠ wr.heap.size := by omega
      have hi0 : (0 : Int) ≤ (ch : Int) := by omega
      have hi1 : (ch : Int) < 256 := by omega
      have hi2 : ch < 256 := by omega
      go_region_held3 (fun w' => w'.cell? ⟨wr.heap.size, 1, none⟩ = some (.int .i32 pl)) (go_keep) (fail)
      obtain ⟨w4, hw4⟩ : ∃ w4, w4 = (w3.setCell ⟨mb, ch, none⟩ (.int .i32 pl)).drew := ⟨_, rfl⟩
      have HW4 : Hid (w4 = (w3.setCell ⟨mb, ch, none⟩ (.int .i32 pl)).drew) := hw4
      have hc4 : Chg (fun x => x = mb) w3 w4 := by rw [hw4]; exact ((Chg.refl (fun x => x = mb) w3).setCell (p := ⟨mb, ch, none⟩) (fun _ => rfl) _).drew
      have xm4 : w4.rowIs mb 53 256 (fun i => .int .i32 (mk Ch Pl M (k + 1) i)) := by
        have x4 := ((XM.out.set ch (.int .i32 pl)).congr (g := fun i => .int .i32 (mk Ch Pl M (k + 1) i)) (fun i hi => ?_))
        · rw [hw4]; exact x4
        rw [hK.out]
        dsimp only
        by_cases e : i = ch
        · rw [if_pos e, if_pos e]
        · rw [if_neg e, if_neg e]
      have y4 : w4.cell? ⟨wr.heap.size, 2, none⟩ = some (.bool fxb) := by
        rw [hc4.cell (World.block_lt_of_cell? w3 _ y2') (by show ¬ wr.heap.size = mb; omega)]; exact y2'
      have fin : Hid (∀ w5 fx5, Str w5 base b N2 fx5 nd2 Fp2 → fx' ≤ fx5 → fx5 ≤ N2 → Tree nd2 N2 fx5 pos2 h2 0 r → Chg (fun x => x = b) w4 w5 → ∃ k5 n5 h5 : Nat, k5 ≤ len ∧ h5 ≤ 3 ∧ Value.int .i64 ((k : Int) + 1) = .int .i64 k5 ∧ Hid (w5.rowIs w.heap.size 55 2 (pair n5 h5)) ∧ Hid (w5.rowIs (w.heap.size + 1) 55 2 (pair 0 0)) ∧ Hid (W.heap.size ≤ w5.heap.size ∧ ∃ nd' N' fx' pos' Fp', Str w5 base b N' fx' nd' Fp' ∧ Zero nd' ∧ fx ≤ fx' ∧ fx' ≤ N' ∧ N' ≤ N + 8 * k5 ∧ (∀ i, i < fx → ∀ j, nd' i j = nd i j) ∧ Tree nd' N' fx' pos' h5 0 n5 ∧ (∀ x, x < 256 → ((view nd' h5 n5 x : Nat) : Int) = mk Ch Pl M k5 x % 4294967296) ∧
    w5.rowIs mb 53 256 (fun i => .int .i32 (mk Ch Pl M k5 i)) ∧ Chg (fun x => Fp x ∨ x = mb ∨ w.heap.size ≤ x) w w5 ∧ ∀ x, Fp' x → Fp x ∨ W.heap.size ≤ x)) := by
        intro w5 fx5 v1 v2 v3 v4 v5
        obtain ⟨u1, u2, u3, u4, u5, u6, u7, u8, u9⟩ := HA.out
        obtain ⟨o3, o4, o5, o6, o7⟩ := HB.out
        have hbF := H.out.bIn
        have hbl := hwlt.out _ hbF
        have hbm : b ≠ mb := fun e => hmF (e ▸ hbF)
        have h35 := Nat.le_trans hc4.size v5.size
        have h23 : wr.heap.size < w3.heap.size := World.block_lt_of_cell? w3 _ y2'
        have hwr := hWr.out
        refine ⟨k + 1, r, h2, by omega, hh2, rfl, v5.row (hc4.row X0.out (by omega)) (by omega), v5.row (hc4.row X1.out (by omega)) (by omega), by omega, nd2, N2, fx5, pos2, Fp2, v1, fun j => ?_, by omega, v3, by omega, fun i hi j => ?_, v4, fun x hx => ?_, v5.row xm4 (by omega), ?_, HFt.out⟩
        · rw [o5 0 (by omega)]; exact u2 j
        · rw [o5 i (by omega)]; exact u6 i hi j
        · rw [o7 x hx, hK.out]
          dsimp only
          by_cases e : x = ch
          · rw [if_pos e, if_pos e]; exact hpl.symm
          · rw [if_neg e, if_neg e]; exact u7 x hx
        · exact (HC3.out.andThen hc4 (fun x hx _ => .inr (.inl hx))).andThen v5 (fun x hx _ => .inl (by rw [hx]; exact hbF))
      have HS4 : Hid (Str w4 base b N2 fx' nd2 Fp2) := HS3.out.keep hc4 (fun x hx => NF2.out x (.inl hx))
      have hfix := (show Hid _ from fix_str w4 HS4.out)
      have hmu : (len - (intOf (Value.int .i64 ((k : Int) + 1))).toNat) < len - (intOf (Value.int .i64 (k : Int))).toNat := by simp only [intOf]; omega
      have HMU := (show Hid _ from hmu)
      clear hmu hw4 xm4 zm zf y1' y2'
      rw [← HW4.out]
      cases fxb with
      | true =>
        go_wp2_with fail
        refine Calls.mono hfix.out ?_
        rintro e w5 ⟨rfl, rfl⟩
        have HE := (show Hid _ from fin.out _ N2 HS4.out.fixed (by obtain ⟨o3, _⟩ := HB.out; have := HA.out.2.2.2.1; omega) (Nat.le_refl _) (HB.out.2.2.2.1.wf.tree pos2 (Nat.le_refl _) (Nat.le_refl _)) ((Chg.refl (fun x => x = b) w4).setCell (p := ⟨b, 2, none⟩) (fun _ => rfl) _))
        go_wp2_with fail
        exact ⟨HE.out, HMU.out⟩
      | false =>
        have HE := (show Hid _ from fin.out w4 fx' HS4.out (Nat.le_refl _) (by obtain ⟨o3, _⟩ := HB.out; have := HA.out.2.2.2.1; omega) HB.out.2.2.2.1 (Chg.refl _ _))
        go_wp2_with fail
        exact ⟨HE.out, HMU.out⟩
    · have hdk : decide ((k : Int) < (len : Int)) = false := by simp; omega
      subst hkl
      have e0 : wr.cell? ⟨w.heap.size, 0, none⟩ = some (.int .u32 n') := q0.out.cell (i := 0) (by omega)
      have e1 : wr.cell? ⟨w.heap.size, 1, none⟩ = some (.int .i32 h') := q0.out.cell (i := 1) (by omega)
      have g0 : wr.cell? ⟨w.heap.size + 1, 0, none⟩ = some (.int .u32 (0 : Nat)) := q1.out.cell (i := 0) (by omega)
      have g1 : wr.cell? ⟨w.heap.size + 1, 1, none⟩ = some (.int .i32 (0 : Nat)) := q1.out.cell (i := 1) (by omega)
      have f0 := q1.out.frozen 0
      have f1 := q1.out.frozen 1
      go_wp2_with fail
      refine bodyPost_ret (v := .agg #[.int .u32 n', .int .i32 h']) ?_ rfl ⟨n', h', rfl, hh', ?_⟩
      · rw [results_cell1 rfl]
        go_simp
      · obtain ⟨hWr, nd', N', fx', pos', Fp', a1, a2, a3, a4, a5, a6, a7, a8, a9, a10, a11⟩ := HI.out
        have hcp := chg_pair wr (w.heap.size + 1) (.int .u32 n') (.int .i32 h')
        refine ⟨nd', N', fx', pos', Fp', a1.keep hcp (fun x hx hf => ?_), a2, a3, a4, a5, a6, a7, a8, hcp.row a9 (by omega), a10.andThen hcp (fun x hx _ => .inr (.inr (by omega))), fun x hx => ?_⟩
        · rcases a11 x hf with h | h
          · have := hwlt.out _ h; omega
          · omega
        · rcases a11 x hx with h | h
          · exact .inl h
          · exact .inr (by omega)
end Go.Proofs.Ybulkcqyu
