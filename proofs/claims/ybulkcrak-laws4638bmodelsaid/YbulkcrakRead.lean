/-
  read[string] (20), walked.
-/
import Derived.Test.YbulkcrakVal
namespace Go.Proofs.Ybulkcrak
set_option linter.unusedVariables false
set_option linter.unusedSimpArgs false
open Go.RowKit Go.Deep

def ReadOk (c v : ByteArray) : Prop := (∃ i e p q, HasVal (bt c) c.size i e p q ∧ v = c.extract p q) ∨ ((∀ i e p q, ¬ HasVal (bt c) c.size i e p q) ∧ v.size = 0)

theorem noVal {F : Nat → Int} {n i : Nat} (t : TrimL F n i) (h : i = n ∨ F i = 59 ∨ F i = 35 ∨ F i = 91 ∨ (∀ k, i ≤ k → k < n → F k ≠ 61) ∨ (i < n ∧ F i = 61)) : ∀ i' e p q, ¬ HasVal F n i' e p q := by
  intro i' e p q hv
  obtain rfl := t.unique hv.left
  have := hv.ilt
  rcases h with h | h | h | h | h | h
  · omega
  · exact hv.m1 h
  · exact hv.m2 h
  · exact hv.m3 h
  · exact h e (by have := hv.ie; omega) hv.en hv.eq
  · exact hv.no i (Nat.le_refl _) hv.ie h.2

set_option maxHeartbeats 400000 in
theorem read_any (lb : Nat) (a va : ByteArray) (ha : a.size ≤ 2048) (w : World) (hl : Hid (LineIs w lb va)) :
    Calls Yba.prog 20 #[.pointer (some ⟨lb, 0, none⟩), .string a] w fun e w' => e = .returned (.tuple #[]) ∧ ∃ v, LineIs w' lb v ∧ Chg (fun x => x = lb) w w' ∧ ReadOk (a.extract 0 (cut a)) v := by
  obtain ⟨ki, nm, re, inh, pa, c0, c1, c2, c3, c4, c5, fz⟩ := hl.out.facts
  have f1 := fz 1
  have f2 := fz 2
  have f3 := fz 3
  have f4 := fz 4
  have f5 := fz 5
  clear fz
  go_enter Yba.func20, Yba.ntmps20
  go_wp2_with fail
  obtain ⟨W1, hW1⟩ : ∃ W1, W1 = ((((w.setCell ⟨lb, 1, none⟩ (.string ⟨#[]⟩)).setCell ⟨lb, 2, none⟩ (.string ⟨#[]⟩)).setCell ⟨lb, 3, none⟩ (.string ⟨#[]⟩)).setCell ⟨lb, 4, none⟩ (.bool false)).setCell ⟨lb, 5, none⟩ (.string ⟨#[]⟩) := ⟨_, rfl⟩
  have HL1 : Hid (LineIs W1 lb ⟨#[]⟩) := by
    rw [hW1]; exact ((((hl.out.set 1 _ (by omega)).setV _).set 3 _ (by omega)).setB _).set 5 _ (by omega)
  have HC1 : Hid (Chg (fun x => x = lb) w W1) := by
    rw [hW1]; exact (((((Chg.refl (fun x => x = lb) w).setCell (p := ⟨lb, 1, none⟩) (fun _ => rfl) _).setCell (p := ⟨lb, 2, none⟩) (fun _ => rfl) _).setCell (p := ⟨lb, 3, none⟩) (fun _ => rfl) _).setCell (p := ⟨lb, 4, none⟩) (fun _ => rfl) _).setCell (p := ⟨lb, 5, none⟩) (fun _ => rfl) _
  rw [← hW1]
  clear hW1 c0 c1 c2 c3 c4 c5 f1 f2 f3 f4 f5 hl
  obtain ⟨ki', nm', re', inh', pa', c0, c1, c2, c3, c4, c5, fz⟩ := HL1.out.facts
  have f0 := fz 0
  have f1 := fz 1
  have f2 := fz 2
  have f3 := fz 3
  clear fz
  have hcz : (a.extract 0 (cut a)).size ≤ 2048 := by simp; have := cut_le a; omega
  have hcont := (show Hid _ from content_any a (by omega) W1)
  obtain ⟨cc, hcc⟩ : ∃ cc, cc = a.extract 0 (cut a) := ⟨_, rfl⟩
  rw [← hcc] at hcz hcont
  have HCC : Hid (cc = a.extract 0 (cut a)) := hcc
  clear hcc
  refine Calls.mono hcont.out ?_
  rintro e w2 ⟨rfl, hw2⟩
  rw [hw2]
  clear hw2 hcont
  go_wp2_with fail
  refine Calls.mono (trimLS_any cc (by omega) W1) ?_
  rintro e w2 ⟨i, rfl, htl, hw2⟩
  rw [hw2]
  clear hw2
  have hile := htl.le
  have HTL : Hid (TrimL (bt cc) cc.size i) := htl
  clear htl
  obtain ⟨tt, htt⟩ : ∃ tt, tt = cc.extract i cc.size := ⟨_, rfl⟩
  have hts : tt.size = cc.size - i := by rw [htt]; simp
  have htb : Hid (∀ k, i + k < cc.size → bt tt k = bt cc (i + k)) := fun k hk => by rw [htt]; exact bt_ext cc i cc.size k (Nat.le_refl _) hk
  rw [← htt]
  have HTT : Hid (tt = cc.extract i cc.size) := htt
  clear htt
  by_cases h0 : i = cc.size
  · have hd0 : ((tt.size : Int) == 0) = true := by rw [hts, h0]; simp
    go_wp2_with fail
    exact bodyPost_ret (results_none rfl _ _ _) rfl ⟨rfl, ⟨#[]⟩, HL1.out.set 0 _ (by omega), HC1.out.setCell (p := ⟨lb, 0, none⟩) (fun _ => rfl) _, by rw [← HCC.out]; exact .inr ⟨noVal HTL.out (.inl h0), rfl⟩⟩
  · have hd0 : ((tt.size : Int) == 0) = false := beq_eq_false_iff_ne.2 (by omega)
    have hb0 := bt_eq tt 0 (by omega)
    rw [htb.out 0 (by omega), Nat.add_zero] at hb0
    by_cases h59 : bt cc i = 59
    · have d59 : (bt cc i == 59) = true := by simp [h59]
      have H59 : Hid (bt cc i = 59) := h59
      clear h59
      go_wp2_with fail
      exact bodyPost_ret (results_none rfl _ _ _) rfl ⟨rfl, ⟨#[]⟩, HL1.out.set 0 _ (by omega), HC1.out.setCell (p := ⟨lb, 0, none⟩) (fun _ => rfl) _, by rw [← HCC.out]; exact .inr ⟨noVal HTL.out (.inr (.inl H59.out)), rfl⟩⟩
    · have d59 : (bt cc i == 59) = false := beq_eq_false_iff_ne.2 h59
      by_cases h35 : bt cc i = 35
      · have d35 : (bt cc i == 35) = true := by simp [h35]
        have H35 : Hid (bt cc i = 35) := h35
        clear h35
        go_wp2_with fail
        exact bodyPost_ret (results_none rfl _ _ _) rfl ⟨rfl, ⟨#[]⟩, HL1.out.set 0 _ (by omega), HC1.out.setCell (p := ⟨lb, 0, none⟩) (fun _ => rfl) _, by rw [← HCC.out]; exact .inr ⟨noVal HTL.out (.inr (.inr (.inl H35.out))), rfl⟩⟩
      · have d35 : (bt cc i == 35) = false := beq_eq_false_iff_ne.2 h35
        by_cases h91 : bt cc i = 91
        · have d91 : (bt cc i == 91) = true := by simp [h91]
          have H91 : Hid (bt cc i = 91) := h91
          clear h91
          go_wp2_with fail
          refine Calls.mono (readHeader_any lb tt ⟨#[]⟩ (by omega) W1 HL1) ?_
          rintro e w3 ⟨rfl, hl3, hc3⟩
          have HL3 : Hid (LineIs w3 lb ⟨#[]⟩) := hl3
          have HC3 : Hid (Chg (fun x => x = lb) w w3) := HC1.out.trans hc3
          clear hl3 hc3
          go_wp2_with fail
          exact bodyPost_ret (results_none rfl _ _ _) rfl ⟨rfl, ⟨#[]⟩, HL3.out, HC3.out, by rw [← HCC.out]; exact .inr ⟨noVal HTL.out (.inr (.inr (.inr (.inl H91.out)))), rfl⟩⟩
        · have d91 : (bt cc i == 91) = false := beq_eq_false_iff_ne.2 h91
          go_wp2_with fail
          refine Calls.mono (indexS_any tt 61 (by omega) W1) ?_
          rintro e w3 ⟨hix, hw3⟩
          rw [hw3]
          clear hw3
          rcases hix with ⟨e, rfl, hfi⟩ | ⟨rfl, hno⟩
          · have HFI : Hid (FirstAt (bt tt) tt.size 61 e) := hfi
            have hlt := hfi.lt
            clear hfi
            go_wp2_with fail
            have htr := (show Hid _ from trimS_any (tt.extract 0 e) (by simp; omega) W1)
            have hke : (tt.extract 0 e).size = e := by simp; omega
            have hkb : Hid (∀ k, k < e → bt (tt.extract 0 e) k = bt tt k) := fun k hk => by rw [bt_ext tt 0 e k (by omega) (by omega), Nat.zero_add]
            generalize tt.extract 0 e = ke at *
            refine Calls.mono htr.out ?_
            rintro e' w3 ⟨r, rfl, hrr, hw3⟩
            rw [hw3]
            clear hw3 htr
            have hr1 := hrr.le
            have hrs : (ke.extract 0 r).size = r := by simp; omega
            have HRR : Hid (Trimmed ke r) := hrr
            clear hrr
            generalize ke.extract 0 r = kr at *
            by_cases he0 : e = 0
            · have hr0 : ((kr.size : Int) == 0) = true := by rw [hrs]; simp; omega
              have HE0 : Hid (i < cc.size ∧ bt cc i = 61) := by
                refine ⟨by omega, ?_⟩
                have := HFI.out.hit
                rw [he0, htb.out 0 (by omega), Nat.add_zero] at this
                exact this
              clear he0
              go_wp2_with fail
              exact bodyPost_ret (results_none rfl _ _ _) rfl ⟨rfl, ⟨#[]⟩, (HL1.out.set 0 _ (by omega)).set 3 _ (by omega), (HC1.out.setCell (p := ⟨lb, 0, none⟩) (fun _ => rfl) _).setCell (p := ⟨lb, 3, none⟩) (fun _ => rfl) _, by rw [← HCC.out]; exact .inr ⟨noVal HTL.out (.inr (.inr (.inr (.inr (.inr HE0.out))))), rfl⟩⟩
            · have hr0 : ((kr.size : Int) == 0) = false := by
                refine beq_eq_false_iff_ne.2 (fun h => ?_)
                have hz : r = 0 := by omega
                have := HRR.out.rest 0 (by omega) (by omega)
                rw [hkb.out 0 (by omega), htb.out 0 (by omega), Nat.add_zero, HTL.out.stop (by omega)] at this
                cases this
              go_wp2_with fail
              obtain ⟨tv, htv⟩ : ∃ tv, tv = tt.extract (e + 1) (cc.size - i) := ⟨_, rfl⟩
              have HTV : Hid (tv = cc.extract (i + (e + 1)) cc.size) := by
                rw [htv, HTT.out, ext_ext cc i cc.size (e + 1) (cc.size - i) (Nat.le_refl _) (by omega), show i + (cc.size - i) = cc.size by omega]; exact rfl
              rw [← htv]
              clear htv
              have htvs : tv.size = cc.size - (i + (e + 1)) := by rw [HTV.out]; simp
              have HTB : Hid (∀ k, i + (e + 1) + k < cc.size → bt tv k = bt cc (i + (e + 1) + k)) := fun k hk => by rw [HTV.out]; exact bt_ext cc _ cc.size k (Nat.le_refl _) hk
              refine Calls.mono (trimLS_any tv (by omega) W1) ?_
              rintro e' w3 ⟨j, rfl, htl2, hw3⟩
              rw [hw3]
              clear hw3
              have hj := htl2.le
              have HT2 : Hid (TrimL (bt tv) tv.size j) := htl2
              clear htl2
              obtain ⟨tw, htw⟩ : ∃ tw, tw = tv.extract j tv.size := ⟨_, rfl⟩
              have HTW : Hid (tw = cc.extract (i + (e + 1) + j) cc.size) := by
                rw [htw, HTV.out, ext_ext cc _ cc.size j _ (Nat.le_refl _) (by rw [← HTV.out]; omega), ← HTV.out, show i + (e + 1) + tv.size = cc.size by omega]; exact rfl
              rw [← htw]
              clear htw
              have htws : tw.size = cc.size - (i + (e + 1) + j) := by rw [HTW.out]; simp
              have HTB2 : Hid (∀ k, i + (e + 1) + j + k < cc.size → bt tw k = bt cc (i + (e + 1) + j + k)) := fun k hk => by rw [HTW.out]; exact bt_ext cc _ cc.size k (Nat.le_refl _) hk
              go_wp2_with fail
              refine Calls.mono (trimS_any tw (by omega) W1) ?_
              rintro e' w3 ⟨r2, rfl, hrr2, hw3⟩
              rw [hw3]
              clear hw3
              have hr2 := hrr2.le
              have HR2 : Hid (Trimmed tw r2) := hrr2
              clear hrr2
              obtain ⟨vv, hvv⟩ : ∃ vv, vv = tw.extract 0 r2 := ⟨_, rfl⟩
              rw [← hvv]
              have HV : Hid (ReadOk cc vv) := by
                rcases Nat.eq_zero_or_pos r2 with hz | hz
                · refine .inr ⟨?_, by rw [hvv, hz]; simp⟩
                  have hj2 : j = tv.size := by
                    rcases Nat.lt_or_ge j tv.size with hlt2 | hge
                    · have h1 := HT2.out.stop hlt2
                      have h2 := HR2.out.rest 0 (by omega) (by omega)
                      rw [HTB2.out 0 (by omega), Nat.add_zero] at h2
                      rw [HTB.out j (by omega), h2] at h1
                      cases h1
                    · omega
                  intro i' e' p q hv
                  have ei := HTL.out.unique hv.left
                  subst ei
                  have hie := hv.ie
                  have hen := hv.en
                  have hpq := hv.pq
                  have hqn := hv.qn
                  have hep := hv.ep
                  have ee : e' = i + e := by
                    rcases Nat.lt_trichotomy e' (i + e) with hl | hl | hl
                    · have h1 := HFI.out.before (e' - i) (by omega)
                      rw [htb.out (e' - i) (by omega), show i + (e' - i) = e' by omega] at h1
                      exact absurd hv.eq h1
                    · exact hl
                    · have h1 := HFI.out.hit
                      rw [htb.out e (by omega)] at h1
                      exact absurd h1 (hv.no (i + e) (by omega) hl)
                  have h1 := HT2.out.drop (p - (i + (e + 1))) (by omega)
                  rw [HTB.out _ (by omega), show i + (e + 1) + (p - (i + (e + 1))) = p by omega, hv.pb] at h1
                  cases h1
                · refine .inl ⟨i, i + e, i + (e + 1) + j, i + (e + 1) + j + r2, ?_, ?_⟩
                  · exact {
                      left := HTL.out
                      ilt := by omega
                      m1 := h59
                      m2 := h35
                      m3 := h91
                      ie := by omega
                      en := by omega
                      eq := by rw [← htb.out e (by omega)]; exact HFI.out.hit
                      no := fun k h1 h2 => by
                        have := HFI.out.before (k - i) (by omega)
                        rwa [htb.out (k - i) (by omega), show i + (k - i) = k by omega] at this
                      ep := by omega
                      gap := fun k h1 h2 => by
                        have := HT2.out.drop (k - (i + (e + 1))) (by omega)
                        rwa [HTB.out _ (by omega), show i + (e + 1) + (k - (i + (e + 1))) = k by omega] at this
                      pq := by omega
                      pb := by rw [← HTB.out j (by omega)]; exact HT2.out.stop (by omega)
                      qn := by omega
                      qb := by
                        have := HR2.out.last hz
                        rwa [HTB2.out _ (by omega), show i + (e + 1) + j + (r2 - 1) = i + (e + 1) + j + r2 - 1 by omega] at this
                      rest := fun k h1 h2 => by
                        have := HR2.out.rest (k - (i + (e + 1) + j)) (by omega) (by omega)
                        rwa [HTB2.out _ (by omega), show i + (e + 1) + j + (k - (i + (e + 1) + j)) = k by omega] at this }
                  · rw [hvv, HTW.out, ext_ext cc _ cc.size 0 r2 (Nat.le_refl _) (by omega)]; rfl
              clear hvv
              go_wp2_with fail
              go_end0
              exact ⟨rfl, vv, ((HL1.out.set 0 _ (by omega)).set 1 _ (by omega)).setV _, ((HC1.out.setCell (p := ⟨lb, 0, none⟩) (fun _ => rfl) _).setCell (p := ⟨lb, 1, none⟩) (fun _ => rfl) _).setCell (p := ⟨lb, 2, none⟩) (fun _ => rfl) _, by rw [← HCC.out]; exact HV.out⟩
          · have HNO : Hid (∀ k, i ≤ k → k < cc.size → bt cc k ≠ 61) := fun k h1 h2 => by
              have := hno (k - i) (by omega)
              rwa [htb.out (k - i) (by omega), show i + (k - i) = k by omega] at this
            clear hno
            go_wp2_with fail
            exact bodyPost_ret (results_none rfl _ _ _) rfl ⟨rfl, ⟨#[]⟩, (HL1.out.set 0 _ (by omega)).set 3 _ (by omega), (HC1.out.setCell (p := ⟨lb, 0, none⟩) (fun _ => rfl) _).setCell (p := ⟨lb, 3, none⟩) (fun _ => rfl) _, by rw [← HCC.out]; exact .inr ⟨noVal HTL.out (.inr (.inr (.inr (.inr (.inl HNO.out))))), rfl⟩⟩
end Go.Proofs.Ybulkcrak
