/-
  read[[]byte] (21), walked.
-/
import Derived.Test.YbulkcrakLineB
import Derived.Test.YbulkcrakRead
namespace Go.Proofs.Ybulkcrak
set_option linter.unusedVariables false
set_option linter.unusedSimpArgs false
open Go.RowKit Go.Deep

def LenOk (c : ByteArray) (m : Nat) : Prop := (∃ i e p q, HasVal (bt c) c.size i e p q ∧ m = q - p) ∨ ((∀ i e p q, ¬ HasVal (bt c) c.size i e p q) ∧ m = 0)

theorem val_of {F : Nat → Int} {n i e j r : Nat} (hL : TrimL F n i) (hi : i < n) (m1 : F i ≠ 59) (m2 : F i ≠ 35) (m3 : F i ≠ 91) (hF : FirstAt (fun k => F (i + k)) (n - i) 61 e) (he : e ≠ 0)
    (hT : TrimL (fun k => F (i + (e + 1 + k))) (n - i - (e + 1)) j) (hR : TrimF (fun k => F (i + (e + 1 + (j + k)))) (n - i - (e + 1) - j) r) :
    (0 < r ∧ HasVal F n i (i + e) (i + (e + 1) + j) (i + (e + 1) + j + r)) ∨ (r = 0 ∧ ∀ i e p q, ¬ HasVal F n i e p q) := by
  have hlt := hF.lt
  have hj := hT.le
  have hr := hR.le
  have hhit : F (i + e) = 61 := hF.hit
  rcases Nat.eq_zero_or_pos r with hz | hz
  · refine .inr ⟨hz, ?_⟩
    have hj2 : j = n - i - (e + 1) := by
      rcases Nat.lt_or_ge j (n - i - (e + 1)) with hlt2 | hge
      · have h1 : bl (F (i + (e + 1 + j))) = false := hT.stop hlt2
        have h2 : bl (F (i + (e + 1 + (j + 0)))) = true := hR.rest 0 (by omega) (by omega)
        rw [Nat.add_zero j, h1] at h2
        cases h2
      · omega
    intro i' e' p q hv
    have ei := hL.unique hv.left
    subst ei
    have hie := hv.ie
    have hen := hv.en
    have hpq := hv.pq
    have hqn := hv.qn
    have hep := hv.ep
    have ee : e' = i + e := by
      rcases Nat.lt_trichotomy e' (i + e) with hl | hl | hl
      · have h1 : F (i + (e' - i)) ≠ 61 := hF.before (e' - i) (by omega)
        rw [show i + (e' - i) = e' by omega] at h1
        exact absurd hv.eq h1
      · exact hl
      · exact absurd hhit (hv.no (i + e) (by omega) hl)
    have h1 : bl (F (i + (e + 1 + (p - (i + (e + 1)))))) = true := hT.drop (p - (i + (e + 1))) (by omega)
    rw [show i + (e + 1 + (p - (i + (e + 1)))) = p by omega, hv.pb] at h1
    cases h1
  · refine .inl ⟨hz, {
      left := hL
      ilt := hi
      m1 := m1
      m2 := m2
      m3 := m3
      ie := by omega
      en := by omega
      eq := hhit
      no := fun k h1 h2 => ?_
      ep := by omega
      gap := fun k h1 h2 => ?_
      pq := by omega
      pb := ?_
      qn := by omega
      qb := ?_
      rest := fun k h1 h2 => ?_ }⟩
    · have h3 : F (i + (k - i)) ≠ 61 := hF.before (k - i) (by omega)
      rwa [show i + (k - i) = k by omega] at h3
    · have h3 : bl (F (i + (e + 1 + (k - (i + (e + 1)))))) = true := hT.drop (k - (i + (e + 1))) (by omega)
      rwa [show i + (e + 1 + (k - (i + (e + 1)))) = k by omega] at h3
    · have h3 : bl (F (i + (e + 1 + j))) = false := hT.stop (by omega)
      rwa [show i + (e + 1 + j) = i + (e + 1) + j by omega] at h3
    · have h3 : bl (F (i + (e + 1 + (j + (r - 1))))) = false := hR.last hz
      rwa [show i + (e + 1 + (j + (r - 1))) = i + (e + 1) + j + r - 1 by omega] at h3
    · have h3 : bl (F (i + (e + 1 + (j + (k - (i + (e + 1) + j)))))) = true := hR.rest (k - (i + (e + 1) + j)) (by omega) (by omega)
      rwa [show i + (e + 1 + (j + (k - (i + (e + 1) + j)))) = k by omega] at h3

set_option maxHeartbeats 400000 in
theorem readB_any (lb : Nat) (sa : Option Addr) (B cap m0 : Nat) (a : ByteArray) (ha : a.size ≤ 2048) (w : World) (hs : Hid (SL w sa B a.size cap (bt a))) (hl : Hid (LineB w lb m0)) (hB : Hid (B < w.heap.size ∧ B ≠ lb)) :
    Calls Yba.prog 21 #[.pointer (some ⟨lb, 0, none⟩), .slice sa a.size cap] w fun e w' => e = .returned (.tuple #[]) ∧ ∃ m, LineB w' lb m ∧ Chg (fun x => x = lb) w w' ∧ LenOk (a.extract 0 (cut a)) m := by
  obtain ⟨ki, na, nn, nc, vb, vc, re, inh, pa, pn, pc, c0, c1, c2, c3, c4, c5, fz, hrow⟩ := hl.out.facts
  have f1 := fz 1
  have f2 := fz 2
  have f3 := fz 3
  have f4 := fz 4
  have f5 := fz 5
  clear fz hrow
  go_enter Yba.func21, Yba.ntmps21
  go_wp2_with fail
  obtain ⟨W1, hW1⟩ : ∃ W1, W1 = ((((w.setCell ⟨lb, 1, none⟩ (.slice none 0 0)).setCell ⟨lb, 2, none⟩ (.slice none 0 0)).setCell ⟨lb, 3, none⟩ (.string ⟨#[]⟩)).setCell ⟨lb, 4, none⟩ (.bool false)).setCell ⟨lb, 5, none⟩ (.slice none 0 0) := ⟨_, rfl⟩
  have HL1 : Hid (LineB W1 lb 0) := by
    rw [hW1]; exact ((((hl.out.setS 1 _ _ _ (by omega)).setV _ _ _).set 3 _ (by omega)).setB _).setS 5 _ _ _ (by omega)
  have HC1 : Hid (Chg (fun x => x = lb) w W1) := by
    rw [hW1]; exact (((((Chg.refl (fun x => x = lb) w).setCell (p := ⟨lb, 1, none⟩) (fun _ => rfl) _).setCell (p := ⟨lb, 2, none⟩) (fun _ => rfl) _).setCell (p := ⟨lb, 3, none⟩) (fun _ => rfl) _).setCell (p := ⟨lb, 4, none⟩) (fun _ => rfl) _).setCell (p := ⟨lb, 5, none⟩) (fun _ => rfl) _
  have HS0 : Hid (SL W1 sa B a.size cap (bt a)) := hs.out.chg HC1.out hB.out.1 hB.out.2
  rw [← hW1]
  clear hW1 c0 c1 c2 c3 c4 c5 f1 f2 f3 f4 f5 hl hs hB
  obtain ⟨ki', na', nn', nc', vb', vc', re', inh', pa', pn', pc', c0, c1, c2, c3, c4, c5, fz, hrow⟩ := HL1.out.facts
  have f0 := fz 0
  have f1 := fz 1
  have f2 := fz 2
  have f3 := fz 3
  clear fz hrow
  have hcont := (show Hid _ from contentB_any sa B cap a (by omega) W1 HS0)
  obtain ⟨cc, hcc⟩ : ∃ cc, cc = a.extract 0 (cut a) := ⟨_, rfl⟩
  have hcs : cut a = cc.size := by rw [hcc]; simp; have := cut_le a; omega
  have hcz : cc.size ≤ 2048 := by rw [← hcs]; have := cut_le a; omega
  have HS : Hid (SL W1 sa B cc.size cap (bt cc)) := (HS0.out.take cc.size (by rw [← hcs]; exact cut_le a)).congr (fun i hi => by rw [hcc, bt_ext a 0 (cut a) i (cut_le a) (by omega), Nat.zero_add])
  rw [hcs] at hcont
  have HCC : Hid (cc = a.extract 0 (cut a)) := hcc
  clear hcc hcs HS0
  refine Calls.mono hcont.out ?_
  rintro e w2 ⟨rfl, hw2⟩
  rw [hw2]
  clear hw2 hcont
  go_wp2_with fail
  refine Calls.mono (trimLB_any sa B cc.size cap (bt cc) (by omega) W1 HS) ?_
  rintro e w2 ⟨i, st, rfl, htl, hst, hw2⟩
  rw [hw2]
  clear hw2
  have hile := htl.le
  have HTL : Hid (TrimL (bt cc) cc.size i) := htl
  clear htl
  obtain ⟨ct, hct⟩ : ∃ ct, ct = cap - i := ⟨_, rfl⟩
  obtain ⟨nt, hnt⟩ : ∃ nt, nt = cc.size - i := ⟨_, rfl⟩
  rw [← hct, ← hnt] at hst
  have HST : Hid (SL W1 st B nt ct (fun k => bt cc (i + k))) := hst
  rw [← hct, ← hnt]
  have HNT : Hid (nt = cc.size - i) := hnt
  have hntb : nt + i = cc.size := by omega
  clear hst hct hnt
  by_cases h0 : i = cc.size
  · have hd0 : ((nt : Int) == 0) = true := by rw [show nt = 0 by omega]; rfl
    go_wp2_with fail
    exact bodyPost_ret (results_none rfl _ _ _) rfl ⟨rfl, 0, HL1.out.set 0 _ (by omega), HC1.out.setCell (p := ⟨lb, 0, none⟩) (fun _ => rfl) _, by rw [← HCC.out]; exact .inr ⟨noVal HTL.out (.inl h0), rfl⟩⟩
  · have hd0 : ((nt : Int) == 0) = false := beq_eq_false_iff_ne.2 (by omega)
    obtain ⟨o, ho⟩ := HST.out.form
    obtain ⟨hsa, hb0⟩ := ho 0 (by omega)
    have hntc := HST.out.1
    rw [Nat.add_zero, Nat.add_zero] at hb0
    clear ho
    by_cases h59 : bt cc i = 59
    · have d59 : (bt cc i == 59) = true := by simp [h59]
      have H59 : Hid (bt cc i = 59) := h59
      clear h59
      subst hsa
      go_wp2_with fail
      exact bodyPost_ret (results_none rfl _ _ _) rfl ⟨rfl, 0, HL1.out.set 0 _ (by omega), HC1.out.setCell (p := ⟨lb, 0, none⟩) (fun _ => rfl) _, by rw [← HCC.out]; exact .inr ⟨noVal HTL.out (.inr (.inl H59.out)), rfl⟩⟩
    · have d59 : (bt cc i == 59) = false := beq_eq_false_iff_ne.2 h59
      by_cases h35 : bt cc i = 35
      · have d35 : (bt cc i == 35) = true := by simp [h35]
        have H35 : Hid (bt cc i = 35) := h35
        clear h35
        subst hsa
        go_wp2_with fail
        exact bodyPost_ret (results_none rfl _ _ _) rfl ⟨rfl, 0, HL1.out.set 0 _ (by omega), HC1.out.setCell (p := ⟨lb, 0, none⟩) (fun _ => rfl) _, by rw [← HCC.out]; exact .inr ⟨noVal HTL.out (.inr (.inr (.inl H35.out))), rfl⟩⟩
      · have d35 : (bt cc i == 35) = false := beq_eq_false_iff_ne.2 h35
        by_cases h91 : bt cc i = 91
        · have d91 : (bt cc i == 91) = true := by simp [h91]
          have H91 : Hid (bt cc i = 91) := h91
          clear h91
          subst hsa
          go_wp2_with fail
          refine Calls.mono (readHeaderB_any lb _ B nt ct 0 _ (by omega) W1 HST HL1) ?_
          rintro e w3 ⟨rfl, hl3, hc3⟩
          have HL3 : Hid (LineB w3 lb 0) := hl3
          have HC3 : Hid (Chg (fun x => x = lb) w w3) := HC1.out.trans hc3
          clear hl3 hc3
          go_wp2_with fail
          exact bodyPost_ret (results_none rfl _ _ _) rfl ⟨rfl, 0, HL3.out, HC3.out, by rw [← HCC.out]; exact .inr ⟨noVal HTL.out (.inr (.inr (.inr (.inl H91.out)))), rfl⟩⟩
        · have d91 : (bt cc i == 91) = false := beq_eq_false_iff_ne.2 h91
          have H59 : Hid (bt cc i ≠ 59) := h59
          have H35 : Hid (bt cc i ≠ 35) := h35
          have H91 : Hid (bt cc i ≠ 91) := h91
          clear h59 h35 h91
          have HSA : Hid (st = some ⟨B, o, none⟩) := hsa
          subst hsa
          go_wp2_with fail
          refine Calls.mono (indexB_any _ B nt ct _ 61 (by omega) W1 HST) ?_
          rintro e w3 ⟨hix, hw3⟩
          rw [hw3]
          clear hw3 hb0
          rcases hix with ⟨e, rfl, hfi⟩ | ⟨rfl, hno⟩
          · have HFI : Hid (FirstAt (fun k => bt cc (i + k)) nt 61 e) := hfi
            have hlt := hfi.lt
            clear hfi
            have HSK : Hid (SL W1 (some ⟨B, o, none⟩) B e ct (fun k => bt cc (i + k))) := HST.out.take e (by omega)
            have HSV : Hid (SL W1 (subA (some ⟨B, o, none⟩) (e + 1) ct) B (nt - (e + 1)) (ct - (e + 1)) (fun k => bt cc (i + (e + 1 + k)))) := HST.out.from (e + 1) (by omega)
            have hsl : ∀ wx, (Instr.slice 25 (.slice (some ⟨B, o, none⟩) nt ct) (some (.int .i64 ((e : Int) + 1))) none none).run Yba.prog wx = .ok (.slice (subA (some ⟨B, o, none⟩) (e + 1) ct) (nt - (e + 1)) (ct - (e + 1))) wx := fun wx => by
              have := sl_l wx (some ⟨B, o, none⟩) nt ct (e + 1) (by omega)
              rw [← this]
              congr 4
            obtain ⟨nv, hnv⟩ : ∃ nv, nv = nt - (e + 1) := ⟨_, rfl⟩
            obtain ⟨cv, hcv⟩ : ∃ cv, cv = ct - (e + 1) := ⟨_, rfl⟩
            rw [← hnv, ← hcv] at HSV
            rw [← hnv, ← hcv] at hsl
            have hnvb : nv + (e + 1) = nt := by omega
            have HNV : Hid (nv = nt - (e + 1)) := hnv
            clear hnv hcv
            generalize subA (some ⟨B, o, none⟩) (e + 1) ct = sv at *
            go_wp2_with fail
            refine Calls.mono (trimB_sl _ B e ct _ (by omega) W1 HSK) ?_
            rintro e' w3 ⟨r, rfl, hrr, hw3⟩
            rw [hw3]
            clear hw3
            have hr1 := hrr.le
            have HRR : Hid (TrimF (fun k => bt cc (i + k)) e r) := hrr
            clear hrr
            by_cases he0 : e = 0
            · have hr0 : ((r : Int) == 0) = true := by rw [show r = 0 by omega]; rfl
              have HE0 : Hid (i < cc.size ∧ bt cc i = 61) := by
                refine ⟨by omega, ?_⟩
                have := HFI.out.hit
                rw [he0, Nat.add_zero] at this
                exact this
              clear he0
              go_wp2_with fail
              exact bodyPost_ret (results_none rfl _ _ _) rfl ⟨rfl, 0, (HL1.out.set 0 _ (by omega)).set 3 _ (by omega), (HC1.out.setCell (p := ⟨lb, 0, none⟩) (fun _ => rfl) _).setCell (p := ⟨lb, 3, none⟩) (fun _ => rfl) _, by rw [← HCC.out]; exact .inr ⟨noVal HTL.out (.inr (.inr (.inr (.inr (.inr HE0.out))))), rfl⟩⟩
            · have hr0 : ((r : Int) == 0) = false := by
                refine beq_eq_false_iff_ne.2 (fun h => ?_)
                have hz : r = 0 := by omega
                have h1 : bl (bt cc (i + 0)) = true := HRR.out.rest 0 (by omega) (by omega)
                rw [Nat.add_zero, HTL.out.stop (by omega)] at h1
                cases h1
              go_wp2_with fail
              refine Calls.mono (trimLB_any sv B nv cv _ (by omega) W1 HSV) ?_
              rintro e' w3 ⟨j, sx, rfl, htl2, hsx, hw3⟩
              rw [hw3]
              clear hw3
              have hj := htl2.le
              have HT2 : Hid (TrimL (fun k => bt cc (i + (e + 1 + k))) nv j) := htl2
              have HSX : Hid (SL W1 sx B (nv - j) (cv - j) (fun k => bt cc (i + (e + 1 + (j + k))))) := hsx
              clear htl2 hsx
              obtain ⟨nx, hnx⟩ : ∃ nx, nx = nv - j := ⟨_, rfl⟩
              obtain ⟨cx, hcx⟩ : ∃ cx, cx = cv - j := ⟨_, rfl⟩
              rw [← hnx, ← hcx] at HSX
              rw [← hnx, ← hcx]
              have hnxb : nx ≤ 2048 := by omega
              have HNX : Hid (nx = nv - j) := hnx
              clear hnx hcx
              go_wp2_with fail
              refine Calls.mono (trimB_sl sx B nx cx _ (by omega) W1 HSX) ?_
              rintro e' w3 ⟨r2, rfl, hrr2, hw3⟩
              rw [hw3]
              clear hw3
              have HV : Hid (LenOk cc r2) := by
                have hR := hrr2
                rw [HNX.out, HNV.out, HNT.out] at hR
                have hT := HT2.out
                rw [HNV.out, HNT.out] at hT
                have hF := HFI.out
                rw [HNT.out] at hF
                rcases val_of HTL.out (by omega) H59.out H35.out H91.out hF he0 hT hR with ⟨hz, hv⟩ | ⟨hz, hno⟩
                · exact .inl ⟨_, _, _, _, hv, by omega⟩
                · exact .inr ⟨hno, hz⟩
              clear hrr2
              go_wp2_with fail
              go_end0
              exact ⟨rfl, r2, ((HL1.out.set 0 _ (by omega)).setS 1 _ _ _ (by omega)).setV _ _ _, ((HC1.out.setCell (p := ⟨lb, 0, none⟩) (fun _ => rfl) _).setCell (p := ⟨lb, 1, none⟩) (fun _ => rfl) _).setCell (p := ⟨lb, 2, none⟩) (fun _ => rfl) _, by rw [← HCC.out]; exact HV.out⟩
          · have HNO : Hid (∀ k, i ≤ k → k < cc.size → bt cc k ≠ 61) := fun k h1 h2 => by
              have := hno (k - i) (by omega)
              rwa [show i + (k - i) = k by omega] at this
            clear hno
            go_wp2_with fail
            exact bodyPost_ret (results_none rfl _ _ _) rfl ⟨rfl, 0, (HL1.out.set 0 _ (by omega)).set 3 _ (by omega), (HC1.out.setCell (p := ⟨lb, 0, none⟩) (fun _ => rfl) _).setCell (p := ⟨lb, 3, none⟩) (fun _ => rfl) _, by rw [← HCC.out]; exact .inr ⟨noVal HTL.out (.inr (.inr (.inr (.inr (.inl HNO.out))))), rfl⟩⟩
end Go.Proofs.Ybulkcrak
