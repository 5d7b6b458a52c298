/-
  zzs4638bmodel (17), walked.
-/
import Derived.Test.YbulkcrakHead
import Derived.Deep.Cut
import Derived.Deep.CutRange
namespace Go.Proofs.Ybulkcrak
set_option linter.unusedVariables false
set_option linter.unusedSimpArgs false
open Go.RowKit Go.Deep

theorem noVal2 {F : Nat → Int} {n i e : Nat} (t : TrimL F n i) (hie : i ≤ e) (he : F e = 61) (hb : ∀ k, i ≤ k → k < e → F k ≠ 61) (hr : ∀ k, e < k → k < n → bl (F k) = true) : ∀ i' e' p q, ¬ HasVal F n i' e' p q := by
  intro i' e' p q hv
  obtain rfl := t.unique hv.left
  have ee : e' = e := by
    have := hv.ie
    rcases Nat.lt_trichotomy e' e with hl | hl | hl
    · exact absurd hv.eq (hb e' (by omega) hl)
    · exact hl
    · exact absurd he (hv.no e hie hl)
  subst ee
  have h1 := hr p hv.ep (by have := hv.pq; have := hv.qn; omega)
  rw [hv.pb] at h1
  cases h1

set_option maxRecDepth 20000 in
set_option maxHeartbeats 800000 in
theorem model_any (a : ByteArray) (ha : a.size ≤ 2048) (w : World) : Calls Yba.prog 17 #[.string a] w fun e w' => ∃ h, e = .returned (.string h) ∧ HeadOk (a.extract 0 (cut a)) h ∧ w' = w := by
  go_enter Yba.func17, Yba.ntmps17
  go_upto_region 2 with fail
  go_cut [20] from 10 to 20 (fun s wx => s = .bool (decide (0 < a.size ∧ bt a (a.size - 1) = 10)) ∧ wx = w)
  case first =>
    by_cases h0 : 0 < a.size
    · have hd0 : decide ((0 : Int) < (a.size : Int)) = true := by simp; omega
      have hb := bt_eq a (a.size - 1) (by omega)
      by_cases h1 : bt a (a.size - 1) = 10
      · have hd1 : (bt a (a.size - 1) == 10) = true := by simp [h1]
        have H1 : Hid (decide (0 < a.size ∧ bt a (a.size - 1) = 10) = true) := decide_eq_true ⟨h0, h1⟩
        clear h1
        go_wp2_with fail
        go_meet
        case rel => exact ⟨by rw [H1.out], rfl⟩
      · have hd1 : (bt a (a.size - 1) == 10) = false := by simp [h1]
        have H1 : Hid (decide (0 < a.size ∧ bt a (a.size - 1) = 10) = false) := decide_eq_false (fun h => h1 h.2)
        clear h1
        go_wp2_with fail
        go_meet
        case rel => exact ⟨by rw [H1.out], rfl⟩
    · have hd0 : decide ((0 : Int) < (a.size : Int)) = false := decide_eq_false (by omega)
      have H1 : Hid (decide (0 < a.size ∧ bt a (a.size - 1) = 10) = false) := decide_eq_false (fun h => h0 h.1)
      go_wp2_with fail
      go_meet
      case rel => exact ⟨by rw [H1.out], rfl⟩
  case rest =>
    obtain ⟨rfl, rfl⟩ := hcut
    go_upto_if 20 with fail
    go_cut [3] from 10 to 33 (fun s wx => s = .int .i64 (cut a) ∧ wx = wc)
    case first =>
      by_cases h1 : 0 < a.size ∧ bt a (a.size - 1) = 10
      · have hd1 : decide (0 < a.size ∧ bt a (a.size - 1) = 10) = true := decide_eq_true h1
        have HC : Hid (cut a = if 0 < a.size - 1 ∧ bt a (a.size - 1 - 1) = 13 then a.size - 1 - 1 else a.size - 1) := by unfold cut; rw [if_pos h1]; exact rfl
        have h0 := h1.1
        rw [hd1]
        clear h1 hd1
        by_cases h2 : 0 < a.size - 1
        · have hd2 : decide ((0 : Int) < (a.size : Int) - 1) = true := by simp; omega
          have hb2 := bt_eq a (a.size - 1 - 1) (by omega)
          by_cases h3 : bt a (a.size - 1 - 1) = 13
          · have hd3 : (bt a (a.size - 1 - 1) == 13) = true := by simp [h3]
            have HC2 : Hid (cut a = a.size - 1 - 1) := by rw [HC.out, if_pos ⟨h2, h3⟩]; exact rfl
            clear h3
            go_wp2_with fail
            go_meet
            case rel => exact ⟨by rw [HC2.out, show ((a.size - 1 - 1 : Nat) : Int) = (a.size : Int) - 1 - 1 by omega], rfl⟩
          · have hd3 : (bt a (a.size - 1 - 1) == 13) = false := by simp [h3]
            have HC2 : Hid (cut a = a.size - 1) := by rw [HC.out, if_neg (fun h => h3 h.2)]; exact rfl
            clear h3
            go_wp2_with fail
            go_meet
            case rel => exact ⟨by rw [HC2.out, show ((a.size - 1 : Nat) : Int) = (a.size : Int) - 1 by omega], rfl⟩
        · have hd2 : decide ((0 : Int) < (a.size : Int) - 1) = false := by simp; omega
          have HC2 : Hid (cut a = a.size - 1) := by rw [HC.out, if_neg (fun h => h2 h.1)]; exact rfl
          go_wp2_with fail
          go_meet
          case rel => exact ⟨by rw [HC2.out, show ((a.size - 1 : Nat) : Int) = (a.size : Int) - 1 by omega], rfl⟩
      · have hd1 : decide (0 < a.size ∧ bt a (a.size - 1) = 10) = false := decide_eq_false h1
        have HC : Hid (cut a = a.size) := by unfold cut; rw [if_neg h1]; exact rfl
        rw [hd1]
        clear h1 hd1
        go_wp2_with fail
        go_meet
        case rel => exact ⟨by rw [HC.out], rfl⟩
    case rest =>
      obtain ⟨rfl, rfl⟩ := hcut
      have hle := cut_le a
      go_wp2_with fail
      obtain ⟨cc, hcc⟩ : ∃ cc, cc = a.extract 0 (cut a) := ⟨_, rfl⟩
      have hcz : cc.size ≤ 2048 := by rw [hcc]; simp; omega
      rw [← hcc]
      have HCC : Hid (cc = a.extract 0 (cut a)) := hcc
      clear hcc hle
      go_loopw [5] (fun x wr => ∃ i : Nat, i ≤ cc.size ∧ x = .int .i64 i ∧ Hid (∀ k, k < i → bl (bt cc k) = true) ∧ wr = wc) (fun x _ => cc.size - (iOf x).toNat)
      case atStart => exact ⟨0, by omega, rfl, fun k h => absurd h (by omega), rfl⟩
      case round =>
        obtain ⟨i, hi, rfl, hr, rfl⟩ := hrel
        by_cases h0 : i < cc.size
        · have hd : decide ((i : Int) < (cc.size : Int)) = true := by simp; omega
          have hb := bt_eq cc i h0
          have hc := (show Hid _ from bblank_any (bt cc i) wr)
          cases hbl : bl (bt cc i) with
          | true =>
            rw [hbl] at hc
            have hR : Hid (∀ k, k < i + 1 → bl (bt cc k) = true) := fun k h1 => by
              by_cases e : k = i
              · rw [e]; exact hbl
              · exact hr.out k (by omega)
            clear hr hbl
            go_wp2_with fail
            refine Calls.mono hc.out ?_
            rintro e w' ⟨rfl, hw'⟩
            rw [hw']
            clear hw'
            go_wp2_with fail
            exact ⟨⟨i + 1, by omega, by rw [show ((i + 1 : Nat) : Int) = (i : Int) + 1 by omega], hR, trivial⟩, by simp only [iOf]; omega⟩
          | false =>
            rw [hbl] at hc
            have HTL : Hid (TrimL (bt cc) cc.size i) := ⟨hi, hr.out, fun _ => hbl⟩
            clear hbl hr
            have hdn : ((i : Int) == (cc.size : Int)) = false := beq_eq_false_iff_ne.2 (by omega)
            by_cases h59 : bt cc i = 59
            · have d59 : (bt cc i == 59) = true := by simp [h59]
              have H59 : Hid (bt cc i = 59) := h59
              clear h59
              go_wp2_with fail
              refine Calls.mono hc.out ?_
              rintro e w' ⟨rfl, hw'⟩
              rw [hw']
              clear hw'
              go_wp2_with fail
              go_ret
              exact ⟨_, rfl, by rw [← HCC.out]; exact .inr ⟨noVal HTL.out (.inr (.inl H59.out)), rfl⟩, rfl⟩
            · have d59 : (bt cc i == 59) = false := beq_eq_false_iff_ne.2 h59
              have H59 : Hid (bt cc i ≠ 59) := h59
              clear h59
              by_cases h35 : bt cc i = 35
              · have d35 : (bt cc i == 35) = true := by simp [h35]
                have H35 : Hid (bt cc i = 35) := h35
                clear h35
                go_wp2_with fail
                refine Calls.mono hc.out ?_
                rintro e w' ⟨rfl, hw'⟩
                rw [hw']
                clear hw'
                go_wp2_with fail
                go_ret
                exact ⟨_, rfl, by rw [← HCC.out]; exact .inr ⟨noVal HTL.out (.inr (.inr (.inl H35.out))), rfl⟩, rfl⟩
              · have d35 : (bt cc i == 35) = false := beq_eq_false_iff_ne.2 h35
                have H35 : Hid (bt cc i ≠ 35) := h35
                clear h35
                by_cases h91 : bt cc i = 91
                · have d91 : (bt cc i == 91) = true := by simp [h91]
                  have H91 : Hid (bt cc i = 91) := h91
                  clear h91
                  go_wp2_with fail
                  refine Calls.mono hc.out ?_
                  rintro e w' ⟨rfl, hw'⟩
                  rw [hw']
                  clear hw'
                  go_wp2_with fail
                  go_ret
                  exact ⟨_, rfl, by rw [← HCC.out]; exact .inr ⟨noVal HTL.out (.inr (.inr (.inr (.inl H91.out)))), rfl⟩, rfl⟩
                · have d91 : (bt cc i == 91) = false := beq_eq_false_iff_ne.2 h91
                  have H91 : Hid (bt cc i ≠ 91) := h91
                  clear h91
                  go_wp2_with fail
                  refine Calls.mono hc.out ?_
                  rintro e w' ⟨rfl, hw'⟩
                  rw [hw']
                  clear hw' hc w'
                  go_wp2_with fail
                  rename World => wQ
                  clear hb hd hdn d59 d35 d91
                  go_loopw [6, 7] (fun x6 x7 wr => ∃ j : Nat, i ≤ j ∧ j ≤ cc.size ∧ x6 = .int .i64 (-1) ∧ x7 = .int .i64 j ∧ Hid (∀ k, i ≤ k → k < j → bt cc k ≠ 61) ∧ wr = wQ) (fun x6 x7 _ => cc.size - (iOf x7).toNat)
                  case atStart => exact ⟨i, Nat.le_refl _, hi, rfl, rfl, fun k h1 h2 => absurd h2 (by omega), rfl⟩
                  case round =>
                    obtain ⟨j, hij, hj, rfl, rfl, hno, rfl⟩ := hrel
                    by_cases h1 : j < cc.size
                    · have hd1 : decide ((j : Int) < (cc.size : Int)) = true := by simp; omega
                      have hb1 := bt_eq cc j h1
                      by_cases h61 : bt cc j = 61
                      · have d61 : (bt cc j == 61) = true := by simp [h61]
                        have H61 : Hid (bt cc j = 61) := h61
                        clear h61
                        have hneg : decide ((j : Int) < 0) = false := by simp
                        by_cases hji : j = i
                        · have hdji : ((j : Int) == (i : Int)) = true := by simp [hji]
                          have HE0 : Hid (i < cc.size ∧ bt cc i = 61) := ⟨h0, by rw [← hji]; exact H61.out⟩
                          clear hji
                          go_wp2_with fail
                          go_ret
                          exact ⟨_, rfl, by rw [← HCC.out]; exact .inr ⟨noVal HTL.out (.inr (.inr (.inr (.inr (.inr HE0.out))))), rfl⟩, rfl⟩
                        · have hdji : ((j : Int) == (i : Int)) = false := beq_eq_false_iff_ne.2 (by omega)
                          go_wp2_with fail
                          rename World => wR
                          have HNO : Hid (∀ k, i ≤ k → k < j → bt cc k ≠ 61) := hno
                          clear hno hb1 hd1 d61 hneg hdji
                          go_loopw [8] (fun x wr => ∃ v : Nat, j < v ∧ v ≤ cc.size ∧ x = .int .i64 v ∧ Hid (∀ k, j < k → k < v → bl (bt cc k) = true) ∧ wr = wR) (fun x _ => cc.size - (iOf x).toNat)
                          case atStart => exact ⟨j + 1, by omega, by omega, by rw [show ((j + 1 : Nat) : Int) = (j : Int) + 1 by omega], fun k h2 h3 => absurd h3 (by omega), rfl⟩
                          case round =>
                            obtain ⟨v, hjv, hv, rfl, hgp, rfl⟩ := hrel
                            by_cases h2 : v < cc.size
                            · have hd2 : decide ((v : Int) < (cc.size : Int)) = true := by simp; omega
                              have hb2 := bt_eq cc v h2
                              have hc := (show Hid _ from bblank_any (bt cc v) wr)
                              cases hbl : bl (bt cc v) with
                              | true =>
                                rw [hbl] at hc
                                have hR : Hid (∀ k, j < k → k < v + 1 → bl (bt cc k) = true) := fun k h3 h4 => by
                                  by_cases e : k = v
                                  · rw [e]; exact hbl
                                  · exact hgp.out k h3 (by omega)
                                clear hgp hbl
                                go_wp2_with fail
                                refine Calls.mono hc.out ?_
                                rintro e w' ⟨rfl, hw'⟩
                                rw [hw']
                                clear hw' w'
                                go_wp2_with fail
                                exact ⟨⟨v + 1, by omega, by omega, by rw [show ((v + 1 : Nat) : Int) = (v : Int) + 1 by omega], hR, trivial⟩, by simp only [iOf]; omega⟩
                              | false =>
                                rw [hbl] at hc
                                have HPB : Hid (bl (bt cc v) = false) := hbl
                                clear hbl
                                go_wp2_with fail
                                refine Calls.mono hc.out ?_
                                rintro e w' ⟨rfl, hw'⟩
                                rw [hw']
                                clear hw' w' hc
                                go_wp2_with fail
                                rename World => wS
                                clear hd2 hb2
                                go_loopw [9] (fun x wr => ∃ q : Nat, v ≤ q ∧ q ≤ cc.size ∧ x = .int .i64 q ∧ Hid (∀ k, q ≤ k → k < cc.size → bl (bt cc k) = true) ∧ wr = wS) (fun x _ => (iOf x).toNat)
                                case atStart => exact ⟨cc.size, by omega, Nat.le_refl _, rfl, fun k h3 h4 => absurd h4 (by omega), rfl⟩
                                case round =>
                                  obtain ⟨q, hvq, hq, rfl, hrs, rfl⟩ := hrel
                                  rcases (by omega : v = q ∨ v < q) with h3 | h3
                                  · exfalso
                                    have := hrs.out v (by omega) h2
                                    rw [HPB.out] at this
                                    cases this
                                  · have hd3 : decide ((v : Int) < (q : Int)) = true := by simp; omega
                                    have hb3 := bt_eq cc (q - 1) (by omega)
                                    have hc := (show Hid _ from bblank_any (bt cc (q - 1)) wr)
                                    cases hbl : bl (bt cc (q - 1)) with
                                    | true =>
                                      rw [hbl] at hc
                                      have hR : Hid (∀ k, q - 1 ≤ k → k < cc.size → bl (bt cc k) = true) := fun k h4 h5 => by
                                        by_cases e : k = q - 1
                                        · rw [e]; exact hbl
                                        · exact hrs.out k (by omega) h5
                                      clear hrs hbl
                                      go_wp2_with fail
                                      refine Calls.mono hc.out ?_
                                      rintro e w' ⟨rfl, hw'⟩
                                      rw [hw']
                                      clear hw' w'
                                      go_wp2_with fail
                                      exact ⟨⟨q - 1, by omega, by omega, by rw [show ((q - 1 : Nat) : Int) = (q : Int) - 1 by omega], hR, trivial⟩, by simp only [iOf]; omega⟩
                                    | false =>
                                      rw [hbl] at hc
                                      have HV : Hid (HasVal (bt cc) cc.size i j v q) := {
                                        left := HTL.out
                                        ilt := h0
                                        m1 := H59.out
                                        m2 := H35.out
                                        m3 := H91.out
                                        ie := by omega
                                        en := h1
                                        eq := H61.out
                                        no := HNO.out
                                        ep := hjv
                                        gap := hgp.out
                                        pq := h3
                                        pb := HPB.out
                                        qn := hq
                                        qb := hbl
                                        rest := hrs.out }
                                      have hdq : ((q : Int) == (v : Int)) = false := beq_eq_false_iff_ne.2 (by omega)
                                      clear hbl hrs
                                      go_wp2_with fail
                                      refine Calls.mono hc.out ?_
                                      rintro e w' ⟨rfl, hw'⟩
                                      rw [hw']
                                      clear hw' w' hc
                                      go_wp2_with fail
                                      go_ret
                                      exact ⟨_, rfl, by rw [← HCC.out]; exact .inl ⟨i, j, v, q, HV.out, rfl⟩, rfl⟩
                            · have hd2 : decide ((v : Int) < (cc.size : Int)) = false := by simp; omega
                              have HN : Hid (∀ i e p q, ¬ HasVal (bt cc) cc.size i e p q) := noVal2 HTL.out hij H61.out HNO.out (fun k h3 h4 => hgp.out k h3 (by omega))
                              clear hgp
                              go_wp2_with fail
                              rename World => wS
                              go_loopw [9] (fun x wr => x = .int .i64 cc.size ∧ wr = wS) (fun x _ => (iOf x).toNat)
                              case atStart => exact ⟨rfl, rfl⟩
                              case round =>
                                obtain ⟨rfl, rfl⟩ := hrel
                                have hd3 : decide ((v : Int) < (cc.size : Int)) = false := hd2
                                have hdq : ((cc.size : Int) == (v : Int)) = true := by simp; omega
                                go_wp2_with fail
                                go_ret
                                exact ⟨_, rfl, by rw [← HCC.out]; exact .inr ⟨HN.out, rfl⟩, rfl⟩
                      · have d61 : (bt cc j == 61) = false := beq_eq_false_iff_ne.2 h61
                        have hR : Hid (∀ k, i ≤ k → k < j + 1 → bt cc k ≠ 61) := fun k h2 h3 => by
                          by_cases e : k = j
                          · rw [e]; exact h61
                          · exact hno.out k h2 (by omega)
                        clear hno h61
                        go_wp2_with fail
                        exact ⟨⟨j + 1, by omega, by omega, rfl, by rw [show ((j + 1 : Nat) : Int) = (j : Int) + 1 by omega], hR, trivial⟩, by simp only [iOf]; omega⟩
                    · have hd1 : decide ((j : Int) < (cc.size : Int)) = false := by simp; omega
                      have HNO : Hid (∀ k, i ≤ k → k < cc.size → bt cc k ≠ 61) := fun k h2 h3 => hno.out k h2 (by omega)
                      clear hno
                      go_wp2_with fail
                      go_ret
                      exact ⟨_, rfl, by rw [← HCC.out]; exact .inr ⟨noVal HTL.out (.inr (.inr (.inr (.inr (.inl HNO.out))))), rfl⟩, rfl⟩
        · have hd : decide ((i : Int) < (cc.size : Int)) = false := by simp; omega
          have hdn : ((i : Int) == (cc.size : Int)) = true := by simp; omega
          have HTL : Hid (TrimL (bt cc) cc.size i) := ⟨hi, hr.out, fun h => absurd h h0⟩
          have HE : Hid (i = cc.size) := by show i = cc.size; omega
          clear hr
          go_wp2_with fail
          go_ret
          exact ⟨_, rfl, by rw [← HCC.out]; exact .inr ⟨noVal HTL.out (.inl HE.out), rfl⟩, rfl⟩
end Go.Proofs.Ybulkcrak
