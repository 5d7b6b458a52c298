/-
  (*simulator).receive (7), walked.
-/
import Derived.Test.YbulkcqyuBSim
namespace Go.Proofs.Ybulkcqyu
set_option linter.unusedVariables false
set_option linter.unusedSimpArgs false
open Go.RowKit Go.Deep

set_option maxHeartbeats 1000000 in
theorem receive_any (base b0 bs bp bh bhd bl m k j n gp plen pcap : Nat) (ap : Option Addr) (Ps : Nat → Nat) (hd lv : Nat → Int) (hv : Nat → Value) (hx : Nat → List Nat) (w : World)
    (hj : j < m) (hn : n < k) (hk : k ≤ 300) (hm : m ≤ 16) (hpl : plen ≤ 64)
    (L : Lay base b0 bs bp bh bhd bl) (hbase : base ≤ w.heap.size) (hS : Hid (Sim w base b0 bs bp bh bhd bl m k hd lv hv hx))
    (hlv : -1000 ≤ lv j) (hlv' : lv j ≤ 1000) (hlen : (hx j).length < 300) (hxk : Hid (∀ x ∈ hx j, x < k))
    (hpc : w.cell? ⟨bp, n, none⟩ = some (.slice ap plen pcap)) (hap : Hid (0 < plen → ap = some ⟨gp, 0, none⟩)) (hps : Hid (∀ t, t < plen → w.cell? ⟨gp, t, none⟩ = some (.int .i64 (Ps t)) ∧ Ps t < k))
    (g1 : gp ≠ bh) (g2 : gp ≠ bl) :
    Calls Yba.prog 7 #[.pointer (some ⟨bs, 0, none⟩), .int .i64 j, .int .i64 n] w fun e w' => e = .returned (.tuple #[]) ∧
      RecvPost w w' base b0 bs bp bh bhd bl m k (fun i => if i = n * m + j then (n : Int) else (dropN m j Ps plen (hd, lv j)).1 i) (fun i => if i = j then (dropN m j Ps plen (hd, lv j)).2 + 1 else lv i) hv hx j n := by
  have LL : Hid (Lay base b0 bs bp bh bhd bl) := L
  obtain ⟨l0, ls, lp, lh, lhd, ll, n1, n2, n3, n4, n5, n6, n7, n8, n9, n10, n11, n12⟩ := L
  obtain ⟨c0, c1, c2, c5, c7, c8, c9, rh, rl, rhd, own, apart⟩ := hS.out
  have RH : Hid (w.rowIs bh 3 (k * m) (fun i => .int .i64 (hd i))) := rh
  have RL : Hid (w.rowIs bl 3 m (fun i => .int .i64 (lv i))) := rl
  have RHD : Hid (w.rowIs bhd 33 m hv) := rhd
  have OWN : Hid (∀ i, i < m → w.ownsRow base 3 1 (hv i) (hx i).length (ints (hx i))) := own
  clear rh rl rhd own apart
  have i2 : ((n : Int) % (k : Int)) = (n : Int) := Int.emod_eq_of_lt (by omega) (by omega)
  go_enter Yba.func7, Yba.ntmps7
  go_wp2
  go_quiet (fail)
  go_wp2
  go_loopw [30] (fun v wr => ∃ t : Nat, t ≤ plen ∧ v = .int .i64 t ∧ Hid (Chg (fun b => b = bh ∨ b = bl) w wr ∧ wr.rowIs bh 3 (k * m) (fun i => .int .i64 ((dropN m j Ps t (hd, lv j)).1 i)) ∧ wr.rowIs bl 3 m (fun i => .int .i64 (if i = j then (dropN m j Ps t (hd, lv j)).2 else lv i)))) (fun v _ => plen - (intOf v).toNat)
  case atStart => 
    refine ⟨0, Nat.zero_le _, rfl, (Chg.refl _ _).drewN _, RH.out, RL.out.congr (fun i _ => ?_)⟩
    split
    · rename_i e; rw [e]; rfl
    · rfl
  case round =>
    obtain ⟨t, ht, rfl, HR⟩ := hrel
    by_cases hlt : t < plen
    · obtain rfl := hap.out (by omega)
      obtain ⟨hchg, hrh, hrl⟩ := HR.out
      obtain ⟨hp1, hp2⟩ := hps.out t hlt
      have lgp := World.block_lt_of_cell? w _ hp1
      have lbs := World.block_lt_of_cell? w _ c0
      have d1 : wr.cell? ⟨gp, t, none⟩ = some (.int .i64 (Ps t)) := (hchg.cell (by exact lgp) (by dsimp only; omega)).trans hp1
      have d2 : wr.cell? ⟨bs, 2, none⟩ = some (.int .i64 k) := (hchg.cell (by exact lbs) (by dsimp only; omega)).trans c2
      have d7 : wr.cell? ⟨bs, 7, none⟩ = some (.slice (some ⟨bh, 0, none⟩) (k * m) (k * m)) := (hchg.cell (by exact lbs) (by dsimp only; omega)).trans c7
      have d9 : wr.cell? ⟨bs, 9, none⟩ = some (.slice (some ⟨bl, 0, none⟩) m m) := (hchg.cell (by exact lbs) (by dsimp only; omega)).trans c9
      obtain ⟨p, hp⟩ : ∃ p, Ps t = p := ⟨_, rfl⟩
      obtain ⟨st, hst⟩ : ∃ st, dropN m j Ps t (hd, lv j) = st := ⟨_, rfl⟩
      have hb := dropN_lv m j Ps (hd, lv j) t
      have hN : Hid (dropN m j Ps (t + 1) (hd, lv j) = drop1 m j st p) := by show drop1 m j (dropN m j Ps t (hd, lv j)) (Ps t) = _; rw [hst, hp]
      rw [hst] at hrh hrl hb
      rw [hp] at d1 hp2
      obtain ⟨H, x⟩ := st
      dsimp only at hrh hrl hb
      have hidx : p * m + j < k * m := idx_lt hp2 hj
      have hkm : k * m ≤ 4800 := by have := Nat.mul_le_mul hk hm; omega
      have hidx' : (p : Int) * (m : Int) + (j : Int) < (k : Int) * (m : Int) := by have := Int.ofNat_lt.2 hidx; simpa using this
      have hkm' : (k : Int) * (m : Int) ≤ 4800 := by have := Int.ofNat_le.2 hkm; simpa using this
      have hpos : 0 ≤ (p : Int) * (m : Int) := Int.mul_nonneg (by omega) (by omega)
      have i3 : ((p : Int) % (k : Int)) = (p : Int) := Int.emod_eq_of_lt (by omega) (by omega)
      have e1 : wr.cell? ⟨bh, p * m + j, none⟩ = some (.int .i64 (H (p * m + j))) := hrh.cell hidx
      have f1 : wr.frozen? ⟨bh, p * m + j, none⟩ = false := hrh.frozen _
      have e2 : wr.cell? ⟨bl, j, none⟩ = some (.int .i64 x) := by have := hrl.cell hj; rw [if_pos rfl] at this; exact this
      have f2 : wr.frozen? ⟨bl, j, none⟩ = false := hrl.frozen _
      have HR2 : Hid (wr.rowIs bh 3 (k * m) (fun i => .int .i64 (H i)) ∧ wr.rowIs bl 3 m (fun i => .int .i64 (if i = j then x else lv i)) ∧ Chg (fun b => b = bh ∨ b = bl) w wr) := ⟨hrh, hrl, hchg⟩
      clear hrh hrl hchg HR hst hp
      obtain ⟨y, hy⟩ : ∃ y, H (p * m + j) = y := ⟨_, rfl⟩
      rw [hy] at e1
      have HY : Hid (H (p * m + j) = y) := hy
      clear hy hp1
      by_cases hyp : y = (p : Int)
      · have hb1 : (y == (p : Int)) = true := by rw [hyp]; simp
        have HYP : Hid (y = (p : Int)) := hyp
        clear hyp
        go_wp2
        go_roundw
        case rel =>
          obtain ⟨hrh, hrl, hchg⟩ := HR2.out
          refine ⟨t + 1, by omega, by go_num, (hchg.setCell (by intro _; exact .inl rfl) _).setCell (by intro _; exact .inr rfl) _, ?_, ?_⟩
          · rw [hN.out, drop1, if_pos (by show H (p * m + j) = _; rw [HY.out]; exact HYP.out)]
            refine ((hrh.set (p * m + j) _).setOther (by exact n10) _).congr (fun i _ => ?_)
            dsimp only
            split <;> rfl
          · rw [hN.out, drop1, if_pos (by show H (p * m + j) = _; rw [HY.out]; exact HYP.out)]
            refine ((hrl.setOther (by exact n10.symm) _).set j _).congr (fun i _ => ?_)
            dsimp only
            split <;> rfl
        case measure => simp [intOf]; omega
      · have hb1 : (y == (p : Int)) = false := by rw [beq_eq_false_iff_ne]; exact hyp
        have HYP : Hid (y ≠ (p : Int)) := hyp
        clear hyp
        go_wp2
        go_roundw
        case rel =>
          obtain ⟨hrh, hrl, hchg⟩ := HR2.out
          refine ⟨t + 1, by omega, by go_num, hchg, ?_, ?_⟩
          · rw [hN.out, drop1, if_neg (by show ¬ H (p * m + j) = _; rw [HY.out]; exact HYP.out)]; exact hrh
          · rw [hN.out, drop1, if_neg (by show ¬ H (p * m + j) = _; rw [HY.out]; exact HYP.out)]; exact hrl
        case measure => simp [intOf]; omega
    · have htp : t = plen := by omega
      subst htp
      obtain ⟨hchg, hrh, hrl⟩ := HR.out
      have hb := dropN_lv m j Ps (hd, lv j) t
      obtain ⟨st, hst⟩ : ∃ st, dropN m j Ps t (hd, lv j) = st := ⟨_, rfl⟩
      have HST : Hid (dropN m j Ps t (hd, lv j) = st) := hst
      rw [hst] at hrh hrl hb
      obtain ⟨H, x⟩ := st
      dsimp only at hrh hrl hb
      have lbs := World.block_lt_of_cell? w _ c0
      have d2 : wr.cell? ⟨bs, 2, none⟩ = some (.int .i64 k) := (hchg.cell (by exact lbs) (by dsimp only; omega)).trans c2
      have d7 : wr.cell? ⟨bs, 7, none⟩ = some (.slice (some ⟨bh, 0, none⟩) (k * m) (k * m)) := (hchg.cell (by exact lbs) (by dsimp only; omega)).trans c7
      have d8 : wr.cell? ⟨bs, 8, none⟩ = some (.slice (some ⟨bhd, 0, none⟩) m m) := (hchg.cell (by exact lbs) (by dsimp only; omega)).trans c8
      have d9 : wr.cell? ⟨bs, 9, none⟩ = some (.slice (some ⟨bl, 0, none⟩) m m) := (hchg.cell (by exact lbs) (by dsimp only; omega)).trans c9
      have hidx : n * m + j < k * m := idx_lt hn hj
      have hkm : k * m ≤ 4800 := by have := Nat.mul_le_mul hk hm; omega
      have hidx' : (n : Int) * (m : Int) + (j : Int) < (k : Int) * (m : Int) := by have := Int.ofNat_lt.2 hidx; simpa using this
      have hkm' : (k : Int) * (m : Int) ≤ 4800 := by have := Int.ofNat_le.2 hkm; simpa using this
      have hpos : 0 ≤ (n : Int) * (m : Int) := Int.mul_nonneg (by omega) (by omega)
      have e1 : wr.cell? ⟨bh, n * m + j, none⟩ = some (.int .i64 (H (n * m + j))) := hrh.cell hidx
      have f1 : wr.frozen? ⟨bh, n * m + j, none⟩ = false := hrh.frozen _
      have e2 : wr.cell? ⟨bl, j, none⟩ = some (.int .i64 x) := by have := hrl.cell hj; rw [if_pos rfl] at this; exact this
      have f2 : wr.frozen? ⟨bl, j, none⟩ = false := hrl.frozen _
      have HR2 : Hid (wr.rowIs bh 3 (k * m) (fun i => .int .i64 (H i)) ∧ wr.rowIs bl 3 m (fun i => .int .i64 (if i = j then x else lv i)) ∧ Chg (fun b => b = bh ∨ b = bl) w wr) := ⟨hrh, hrl, hchg⟩
      clear hrh hrl hchg HR hst hps c0 c1 c2 c5 c7 c8 c9 hpc
      go_wp2
      have k0 : ¬ k = 0 := by omega
      have i3 : (n : Int).tmod (k : Int) = (n : Int) := by rw [Int.tmod_eq_emod_of_nonneg (by omega)]; exact i2
      have w1 : IntKind.i64.wrap ((n : Int) * (m : Int)) = (n : Int) * (m : Int) := IntWalk.i64_in _ (by omega)
      have w2 : IntKind.i64.wrap ((n : Int) * (m : Int) + (j : Int)) = (n : Int) * (m : Int) + (j : Int) := IntWalk.i64_in _ (by omega)
      have b1 : 0 ≤ (n : Int) * (m : Int) + (j : Int) := by omega
      have tn : ((n : Int) * (m : Int) + (j : Int)).toNat = n * m + j := idx_toNat n m j
      have n1' := n1.symm
      go_region_held3 (fun w' => w'.cell? ⟨bs, 7, none⟩ = some (.slice (some ⟨bh, 0, none⟩) (k * m) (k * m)) ∧ w'.cell? ⟨bs, 2, none⟩ = some (.int .i64 k)) (go_keep) (fail)
      obtain ⟨W1, hW1⟩ : ∃ W1, W1 = (wr.setCell ⟨bh, n * m + j, none⟩ (.int .i64 n)).drew := ⟨_, rfl⟩
      rw [← hW1]
      have HW1 : Hid (Chg (fun b => b = bh ∨ b = bl) w W1 ∧ W1.rowIs bh 3 (k * m) (fun i => .int .i64 (if i = n * m + j then (n : Int) else H i)) ∧ W1.rowIs bl 3 m (fun i => .int .i64 (if i = j then x else lv i))) := by
        obtain ⟨hrh, hrl, hchg⟩ := HR2.out
        rw [hW1]
        refine ⟨(hchg.setCell (by intro _; exact .inl rfl) _).drew, (hrh.set (n * m + j) _).drew.congr (fun i _ => ?_), (hrl.setOther (by exact n10.symm) _).drew⟩
        split <;> rfl
      have d8' : W1.cell? ⟨bs, 8, none⟩ = some (.slice (some ⟨bhd, 0, none⟩) m m) := by rw [hW1]; show (wr.setCell _ _).cell? _ = _; rw [World.cell?_setCell_far _ _ _ _ n1']; exact d8
      have d9' : W1.cell? ⟨bs, 9, none⟩ = some (.slice (some ⟨bl, 0, none⟩) m m) := by rw [hW1]; show (wr.setCell _ _).cell? _ = _; rw [World.cell?_setCell_far _ _ _ _ n1']; exact d9
      have e2' : W1.cell? ⟨bl, j, none⟩ = some (.int .i64 x) := by have := HW1.out.2.2.cell hj; rw [if_pos rfl] at this; exact this
      have f2' : W1.frozen? ⟨bl, j, none⟩ = false := HW1.out.2.2.frozen _
      clear hW1 d2 d7 d8 d9 e1 e2 f1 f2 HR2 w1 w2 b1 tn i3 i2 k0 hidx' hpos hkm'
      go_wp2
      obtain ⟨W2, hW2⟩ : ∃ W2, W2 = W1.setCell ⟨bl, j, none⟩ (.int .i64 (x + 1)) := ⟨_, rfl⟩
      rw [← hW2]
      have HW2 : Hid (Chg (fun b => b = bh ∨ b = bl) w W2 ∧ W2.rowIs bh 3 (k * m) (fun i => .int .i64 (if i = n * m + j then (n : Int) else H i)) ∧ W2.rowIs bl 3 m (fun i => .int .i64 (if i = j then x + 1 else lv i))) := by
        obtain ⟨hchg, hrh, hrl⟩ := HW1.out
        rw [hW2]
        refine ⟨hchg.setCell (by intro _; exact .inr rfl) _, hrh.setOther (by exact n10) _, (hrl.set j _).congr (fun i _ => ?_)⟩
        split <;> rfl
      have n2' := n2.symm
      have d8 : W2.cell? ⟨bs, 8, none⟩ = some (.slice (some ⟨bhd, 0, none⟩) m m) := by rw [hW2, World.cell?_setCell_far _ _ _ _ n2']; exact d8'
      have d9 : W2.cell? ⟨bs, 9, none⟩ = some (.slice (some ⟨bl, 0, none⟩) m m) := by rw [hW2, World.cell?_setCell_far _ _ _ _ n2']; exact d9'
      clear hW2 d8' d9' e2' f2' HW1
      have lhd' : bhd < w.heap.size := by omega
      have e3 : W2.cell? ⟨bhd, j, none⟩ = some (hv j) := by rw [HW2.out.1.cell (by exact lhd') (by dsimp only; omega)]; exact RHD.out.cell hj
      have own2 : Hid (W2.ownsRow base 3 1 (hv j) (hx j).length (ints (hx j))) := HW2.out.1.owns (OWN.out j hj) (fun b hb => by have := (OWN.out j hj).lt b hb; omega)
      obtain ⟨v0, hv0⟩ : ∃ v0, hv j = v0 := ⟨_, rfl⟩
      have HV0 : Hid (hv j = v0) := hv0
      rw [hv0] at e3 own2
      clear hv0
      obtain ⟨i0, hi, hz0, hz1, hz2⟩ := info_parts Yba.info3
      have sz2 : w.heap.size ≤ W2.heap.size := HW2.out.1.size
      refine wp_region_Z (A := fun w' => w'.cell? ⟨bs, 8, none⟩ = some (.slice (some ⟨bhd, 0, none⟩) m m)) (B := fun w' => w'.cell? ⟨bhd, j, none⟩ = some v0) (z := 16) (by kernel_rfl) ?_
      have hH : (fun w' : World => w'.cell? ⟨bs, 8, none⟩ = some (.slice (some ⟨bhd, 0, none⟩) m m)) W2.drew ∧ (fun w' : World => w'.cell? ⟨bhd, j, none⟩ = some v0) W2.drew := ⟨d8, e3⟩
      refine wpAnyZ_take (i := 0) (v := .pointer (some ⟨bs, 0, none⟩)) rfl (by kernel_rfl) (by kernel_rfl) (by kernel_rfl) (by kernel_rfl) (fun _ _ _ h => h) (by rfl) ?_ hH ?_
      · intro w hSw; (try dsimp only at hSw); go_simp
      simp only [Act.put, List.setIfInBounds_toArray, List.set_cons_zero, List.set_cons_succ]
      refine wpAnyZ_take (i := 1) (v := .pointer (some ⟨bs, 0, none⟩)) rfl (by kernel_rfl) (by kernel_rfl) (by kernel_rfl) (by kernel_rfl) (fun _ _ _ h => h) (by rfl) ?_ hH ?_
      · intro w hSw; (try dsimp only at hSw); go_simp
      simp only [Act.put, List.setIfInBounds_toArray, List.set_cons_zero, List.set_cons_succ]
      refine wpAnyZ_take (i := 2) (v := .pointer (some ⟨bs, 8, none⟩)) rfl (by kernel_rfl) (by kernel_rfl) (by kernel_rfl) (by kernel_rfl) (fun _ _ _ h => h) (by rfl) ?_ hH ?_
      · intro w hSw; (try dsimp only at hSw); go_simp
      simp only [Act.put, List.setIfInBounds_toArray, List.set_cons_zero, List.set_cons_succ]
      refine wpAnyZ_take (i := 3) (v := .slice (some ⟨bhd, 0, none⟩) m m) rfl (by kernel_rfl) (by kernel_rfl) (by kernel_rfl) (by kernel_rfl) (fun _ _ _ h => h) (by rfl) ?_ hH ?_
      · intro w hSw; (try dsimp only at hSw); go_simp
      simp only [Act.put, List.setIfInBounds_toArray, List.set_cons_zero, List.set_cons_succ]
      refine wpAnyZ_take (i := 4) (v := .int .i64 j) rfl (by kernel_rfl) (by kernel_rfl) (by kernel_rfl) (by kernel_rfl) (fun _ _ _ h => h) (by rfl) ?_ hH ?_
      · intro w hSw; (try dsimp only at hSw); go_simp
      simp only [Act.put, List.setIfInBounds_toArray, List.set_cons_zero, List.set_cons_succ]
      refine wpAnyZ_take (i := 5) (v := .pointer (some ⟨bs, 0, none⟩)) rfl (by kernel_rfl) (by kernel_rfl) (by kernel_rfl) (by kernel_rfl) (fun _ _ _ h => h) (by rfl) ?_ hH ?_
      · intro w hSw; (try dsimp only at hSw); go_simp
      simp only [Act.put, List.setIfInBounds_toArray, List.set_cons_zero, List.set_cons_succ]
      refine wpAnyZ_take (i := 6) (v := .pointer (some ⟨bs, 0, none⟩)) rfl (by kernel_rfl) (by kernel_rfl) (by kernel_rfl) (by kernel_rfl) (fun _ _ _ h => h) (by rfl) ?_ hH ?_
      · intro w hSw; (try dsimp only at hSw); go_simp
      simp only [Act.put, List.setIfInBounds_toArray, List.set_cons_zero, List.set_cons_succ]
      refine wpAnyZ_take (i := 7) (v := .pointer (some ⟨bs, 8, none⟩)) rfl (by kernel_rfl) (by kernel_rfl) (by kernel_rfl) (by kernel_rfl) (fun _ _ _ h => h) (by rfl) ?_ hH ?_
      · intro w hSw; (try dsimp only at hSw); go_simp
      simp only [Act.put, List.setIfInBounds_toArray, List.set_cons_zero, List.set_cons_succ]
      refine wpAnyZ_take (i := 8) (v := .slice (some ⟨bhd, 0, none⟩) m m) rfl (by kernel_rfl) (by kernel_rfl) (by kernel_rfl) (by kernel_rfl) (fun _ _ _ h => h) (by rfl) ?_ hH ?_
      · intro w hSw; (try dsimp only at hSw); go_simp
      simp only [Act.put, List.setIfInBounds_toArray, List.set_cons_zero, List.set_cons_succ]
      refine wpAnyZ_take (i := 9) (v := .int .i64 j) rfl (by kernel_rfl) (by kernel_rfl) (by kernel_rfl) (by kernel_rfl) (fun _ _ _ h => h) (by rfl) ?_ hH ?_
      · intro w hSw; (try dsimp only at hSw); go_simp
      simp only [Act.put, List.setIfInBounds_toArray, List.set_cons_zero, List.set_cons_succ]
      refine wpAnyZ_take (i := 10) (v := .pointer (some ⟨bhd, j, none⟩)) rfl (by kernel_rfl) (by kernel_rfl) (by kernel_rfl) (by kernel_rfl) (fun _ _ _ h => h) (by rfl) ?_ hH ?_
      · intro w hSw; (try dsimp only at hSw); go_simp
      simp only [Act.put, List.setIfInBounds_toArray, List.set_cons_zero, List.set_cons_succ]
      refine wpAnyZ_take (i := 11) (v := v0) rfl (by kernel_rfl) (by kernel_rfl) (by kernel_rfl) (by kernel_rfl) (fun _ _ _ h => h) (by rfl) ?_ hH ?_
      · intro w hSw; (try dsimp only at hSw); go_simp
      simp only [Act.put, List.setIfInBounds_toArray, List.set_cons_zero, List.set_cons_succ]
      refine wpAnyZ_take (i := 12) (v := .int .i64 n) rfl (by kernel_rfl) (by kernel_rfl) (by kernel_rfl) (by kernel_rfl) (fun _ _ _ h => h) (by rfl) ?_ hH ?_
      · intro w hSw; (try dsimp only at hSw); go_simp
      simp only [Act.put, List.setIfInBounds_toArray, List.set_cons_zero, List.set_cons_succ]
      refine wpAnyZ_one (i := 13) (by kernel_rfl) rfl (fun K hK => ?_)
      go_simp
      obtain ⟨W3, hW3⟩ : ∃ W3, W3 = (W2.alloc (.cells #[.int .i64 (n : Int)] 3)).drew := ⟨_, rfl⟩
      rw [← hW3]
      have hc3 : Chg (fun _ => False) W2 W3 := by rw [hW3]; exact ((Chg.refl _ _).alloc _).drew
      have sz3 : W3.heap.size = W2.heap.size + 1 := by rw [hW3]; simp
      have bk3 : W3.heap[W2.heap.size]? = some (.cells #[.int .i64 (n : Int)] 3) := by rw [hW3]; exact blk_alloc_new W2 _
      have HC3 : Hid (Chg (fun _ => False) W2 W3) := hc3
      clear hW3 hc3
      have lbs' : bs < W2.heap.size := by omega
      have lhd2 : bhd < W2.heap.size := by omega
      refine hK.out _ _ ((HC3.out.cell (by exact lbs') (fun h => h)).trans d8) (fun _ => (HC3.out.cell (by exact lhd2) (fun h => h)).trans e3) ?_
      clear hK K hH
      refine wpAnyZ_one (i := 14) (by kernel_rfl) rfl (fun K hK => ?_)
      refine step_append_lies W3 (by rfl) (.tmp 105) (.tmp 107) 33 (by rfl) base 3 i0 (.int .i64 0) 1 8 Yba.underlying33 hi hz0 hz1 hz2 rfl (by decide) v0 (hx j).length (ints (hx j)) (by rfl) (HC3.out.owns own2.out (fun _ _ h => h)) ⟨W2.heap.size, 0, none⟩ 1 1 [.int .i64 (n : Int)] (by rfl) rfl (World.news_of_block bk3) (by intro u hu; simp at hu; rw [hu]; rfl) (by decide) (by unfold maxLen; omega) (by omega) (by omega) (W2.heap.size + 1) sz3 ?_
      intro g cap W4 hown hgrow hat hlt
      simp only [List.getElem_toArray, List.getElem_cons_succ, List.getElem_cons_zero, Act.put, List.setIfInBounds_toArray, List.set_cons_zero, List.set_cons_succ]
      have hgo : ∀ b, v0.ownBlock = some b → base ≤ b ∧ b < W2.heap.size := fun b hb => own2.out.lt b hb
      have hc4 : Chg (fun b => v0.ownBlock = some b) W2 W4 := (HC3.out.mono (fun _ h => h.elim)).grown hgrow (fun b hb _ => hb)
      have y8 : W4.cell? ⟨bs, 8, none⟩ = some (.slice (some ⟨bhd, 0, none⟩) m m) := (hc4.cell (by exact lbs') (fun h => by have := hgo _ h; dsimp only at this; omega)).trans d8
      have y9 : W4.cell? ⟨bs, 9, none⟩ = some (.slice (some ⟨bl, 0, none⟩) m m) := (hc4.cell (by exact lbs') (fun h => by have := hgo _ h; dsimp only at this; omega)).trans d9
      have yb : W4.cell? ⟨bhd, j, none⟩ = some v0 := (hc4.cell (by exact lhd2) (fun h => by have := hgo _ h; dsimp only at this; omega)).trans e3
      have rhd4 : W4.rowIs bhd 33 m hv := hc4.row (HW2.out.1.row RHD.out (by omega)) (fun h => by have := hgo _ h; omega)
      have yf : W4.frozen? ⟨bhd, j, none⟩ = false := rhd4.frozen _
      have rl4 : W4.rowIs bl 3 m (fun i => .int .i64 (if i = j then x + 1 else lv i)) := hc4.row HW2.out.2.2 (fun h => by have := hgo _ h; omega)
      have yl : W4.cell? ⟨bl, j, none⟩ = some (.int .i64 (x + 1)) := by have := rl4.cell hj; rw [if_pos rfl] at this; exact this
      have HC4 : Hid (Chg (fun b => v0.ownBlock = some b) W2 W4 ∧ W4.rowIs bhd 33 m hv ∧ W4.rowIs bl 3 m (fun i => .int .i64 (if i = j then x + 1 else lv i)) ∧ (∀ b, v0.ownBlock = some b → base ≤ b ∧ b < W2.heap.size) ∧ (v0.ownBlock = some g ∨ g = W2.heap.size + 1) ∧ W4.ownsRow base 3 1 (.slice (some ⟨g, 0, none⟩) ((hx j).length + 1) cap) ((hx j).length + 1) (ints (hx j) ++ [.int .i64 (n : Int)])) := ⟨hc4, rhd4, rl4, hgo, hat, hown⟩
      clear hc4 rhd4 rl4 hgo hgrow hat hown HC3 bk3 hi hz0 hz1 hz2 d8 d9 e3
      refine hK.out _ _ y8 (fun _ => yb) ?_
      clear hK K
      have hH : (fun w' : World => w'.cell? ⟨bs, 8, none⟩ = some (.slice (some ⟨bhd, 0, none⟩) m m)) W4 ∧ (fun w' : World => w'.cell? ⟨bhd, j, none⟩ = some v0) W4 := ⟨y8, yb⟩
      refine wpAnyZ_take (i := 15) (v := .pointer (some ⟨bhd, j, none⟩)) rfl (by kernel_rfl) (by kernel_rfl) (by kernel_rfl) (by kernel_rfl) (fun _ _ _ h => h) (by rfl) ?_ hH ?_
      · intro w hSw; (try dsimp only at hSw); go_simp
      simp only [Act.put, List.setIfInBounds_toArray, List.set_cons_zero, List.set_cons_succ]
      refine wpAnyZ_one (i := 16) (by kernel_rfl) rfl (fun K hK => ?_)
      go_simp
      refine hK.out _ _ ?_ (fun h => absurd rfl h) ?_
      · rw [World.cell?_setCell_far _ _ _ _ (by exact n3.symm)]; exact y8
      clear hK K hH
      refine wpAnyZ_done (by kernel_rfl) ?_ _
      obtain ⟨W5, hW5⟩ : ∃ W5, W5 = W4.setCell ⟨bhd, j, none⟩ (.slice (some ⟨g, 0, none⟩) ((hx j).length + 1) cap) := ⟨_, rfl⟩
      rw [← hW5]
      have hst5 : Hid (Sim W5 base b0 bs bp bh bhd bl m k (fun i => if i = n * m + j then (n : Int) else H i) (fun i => if i = j then x + 1 else lv i) (fun i => if i = j then .slice (some ⟨g, 0, none⟩) ((hx j).length + 1) cap else hv i) (fun i => if i = j then hx j ++ [n] else hx i) ∧
          Chg (fun b => b = bh ∨ b = bl ∨ b = bhd ∨ (hv j).ownBlock = some b) w W5 ∧ ((hv j).ownBlock = some g ∨ w.heap.size ≤ g) ∧ base ≤ g) := by
        obtain ⟨h4, _, _, _, hat, hown⟩ := HC4.out
        rw [hW5]
        exact sim_append LL.out hS.out hbase hj HW2.out.1 HW2.out.2.1 HW2.out.2.2 (by rw [HV0.out]; exact h4) (by rw [HV0.out]; exact hat) hown
      clear HC4 y8 y9 yb yf yl HW2 own2
      have y8 := hst5.out.1.c8
      have y9 := hst5.out.1.c9
      have yb : W5.cell? ⟨bhd, j, none⟩ = some (.slice (some ⟨g, 0, none⟩) ((hx j).length + 1) cap) := by have := hst5.out.1.rhd.cell hj; rw [if_pos rfl] at this; exact this
      have yl : W5.cell? ⟨bl, j, none⟩ = some (.int .i64 (x + 1)) := by have := hst5.out.1.rl.cell hj; rw [if_pos rfl] at this; exact this
      obtain ⟨N, hN⟩ : ∃ N, (hx j).length + 1 = N := ⟨_, rfl⟩
      have HN : Hid ((hx j).length + 1 = N) := hN
      rw [hN] at yb
      have hN3 : N ≤ 300 := by omega
      clear hN hW5
      rw [HN.out]
      go_wp2
      go_quiet (fail)
      by_cases hgt : 2 * (x + 1) + 8 < (N : Int)
      · have hcomp : Hid (Calls Yba.prog 14 #[.pointer (some ⟨bs, 0, none⟩), .int .i64 j] (W5.drewN nq) fun e w' => ∃ v, e = .returned v ∧ RecvPost w w' base b0 bs bp bh bhd bl m k (fun i => if i = n * m + j then (n : Int) else H i) (fun i => if i = j then x + 1 else lv i) hv hx j n) := by
          obtain ⟨hsim, hchg5, hg5, hbg⟩ := hst5.out
          have hown := hsim.own j hj
          simp only [if_true] at hown
          have hl : (hx j ++ [n]).length = (hx j).length + 1 := by simp
          rw [hl] at hown
          obtain ⟨_, hglt, hnc, hcap, _, F0, rg, hF0⟩ := rowOfOwns hown
          have hF0' : ∀ t, t < (hx j).length + 1 → F0 t = .int .i64 ((((hx j ++ [n]).getD t 0 : Nat)) : Int) := by
            intro t ht
            have := hF0 t ht
            rw [← hl] at ht
            simp only [ints, List.getElem?_map, List.getElem?_eq_getElem ht, Option.map_some, Option.some.injEq] at this
            rw [← this, getD_lt ht]
          have hXk : ∀ t, t < (hx j).length + 1 → (hx j ++ [n]).getD t 0 < k := by
            intro t ht
            rw [← hl] at ht
            have hm := List.getElem_mem ht
            have e : (hx j ++ [n]).getD t 0 = (hx j ++ [n])[t] := getD_lt ht
            rw [e]
            rcases List.mem_append.1 hm with h | h
            · exact hxk.out _ h
            · rw [List.mem_singleton.1 h]; exact hn
          have hc := compact_any b0 bs bh bhd g m k j ((hx j).length + 1) cap _ (fun i => if i = n * m + j then (n : Int) else H i) (fun t => (hx j ++ [n]).getD t 0) (W5.drewN nq) hj hk hm (by omega) hnc
            hsim.c0 hsim.c1 hsim.c2 hsim.c7 hsim.c8 hsim.rh hsim.rhd (by simp [Hid]) F0 rg hF0' hXk (by omega) (by omega) (by omega) (by omega) (by omega)
          refine hc.mono ?_
          rintro e w6 ⟨v, n', rfl, h6, rhd', en, F, rg', hF⟩
          exact ⟨v, rfl, recv_long LL.out hj hbase hcap hnc hsim hchg5 hg5 (if_pos rfl) (by rw [HN.out]; exact hgt) (((Chg.refl _ W5).drewN nq).trans h6) rhd' en rg' hF⟩
        have HST' := HST
        clear hst5 y8 y9 yb yl OWN RH RL RHD HV0
        go_wp2_with fail
        refine Calls.mono hcomp.out ?_
        rintro e w6 ⟨v, rfl, hpost⟩
        have HP : Hid (RecvPost w w6 base b0 bs bp bh bhd bl m k (fun i => if i = n * m + j then (n : Int) else H i) (fun i => if i = j then x + 1 else lv i) hv hx j n) := hpost
        clear hpost
        go_wp2_with fail
        go_end0
        refine ⟨rfl, ?_⟩
        rw [HST.out]
        exact HP.out
      · go_wp2_with fail
        go_end0
        refine ⟨rfl, ?_⟩
        rw [HST.out]
        obtain ⟨hsim, hchg5, hg5, hbg⟩ := hst5.out
        exact recv_short (x := x + 1) nq hsim hchg5 hg5 (if_pos rfl) (by rw [HN.out]; omega)
end Go.Proofs.Ybulkcqyu
