/-
  A line over []byte in memory: of its six cells the value's length alone is told. readHeader[[]byte] (27), walked.
-/
import Derived.Test.YbulkcrakSl
namespace Go.Proofs.Ybulkcrak
set_option linter.unusedVariables false
set_option linter.unusedSimpArgs false
open Go.RowKit Go.Deep

/-- a slice, of whatever length -/
def anyS (v : Value) : Prop := ∃ a n c, v = .slice a n c
/-- a line in memory -/
def lrowB (ki : ByteArray) (nm va : Value) (re : ByteArray) (inh : Bool) (pa : Value) : Nat → Value := fun o => if o = 0 then .string ki else if o = 1 then nm else if o = 2 then va else if o = 3 then .string re else if o = 4 then .bool inh else pa
/-- .. of which the value's length alone is told -/
def LineB (w : World) (lb : Nat) (m : Nat) : Prop := ∃ ki nm vb vc re inh pa, w.rowIs lb 36 6 (lrowB ki nm (.slice vb m vc) re inh pa) ∧ anyS nm ∧ anyS pa

theorem LineB.set {w : World} {lb : Nat} {m : Nat} (h : LineB w lb m) (o : Nat) (s : ByteArray) (ho : o = 0 ∨ o = 3) : LineB (w.setCell ⟨lb, o, none⟩ (.string s)) lb m := by
  obtain ⟨ki, nm, vb, vc, re, inh, pa, hr, h1, h2⟩ := h
  refine ⟨if o = 0 then s else ki, nm, vb, vc, if o = 3 then s else re, inh, pa, (hr.set o _).congr (fun x hx => ?_), h1, h2⟩
  unfold lrowB
  rcases (by omega : x = 0 ∨ x = 1 ∨ x = 2 ∨ x = 3 ∨ x = 4 ∨ x = 5) with rfl | rfl | rfl | rfl | rfl | rfl <;> rcases ho with rfl | rfl <;> rfl
theorem LineB.setS {w : World} {lb : Nat} {m : Nat} (h : LineB w lb m) (o : Nat) (a : Option Addr) (n c : Nat) (ho : o = 1 ∨ o = 5) : LineB (w.setCell ⟨lb, o, none⟩ (.slice a n c)) lb m := by
  obtain ⟨ki, nm, vb, vc, re, inh, pa, hr, h1, h2⟩ := h
  refine ⟨ki, if o = 1 then .slice a n c else nm, vb, vc, re, inh, if o = 5 then .slice a n c else pa, (hr.set o _).congr (fun x hx => ?_), ?_, ?_⟩
  · unfold lrowB
    rcases (by omega : x = 0 ∨ x = 1 ∨ x = 2 ∨ x = 3 ∨ x = 4 ∨ x = 5) with rfl | rfl | rfl | rfl | rfl | rfl <;> rcases ho with rfl | rfl <;> rfl
  · split
    · exact ⟨_, _, _, rfl⟩
    · exact h1
  · split
    · exact ⟨_, _, _, rfl⟩
    · exact h2
theorem LineB.setB {w : World} {lb : Nat} {m : Nat} (h : LineB w lb m) (b : Bool) : LineB (w.setCell ⟨lb, 4, none⟩ (.bool b)) lb m := by
  obtain ⟨ki, nm, vb, vc, re, inh, pa, hr, h1, h2⟩ := h
  refine ⟨ki, nm, vb, vc, re, b, pa, (hr.set 4 _).congr (fun x hx => ?_), h1, h2⟩
  unfold lrowB
  rcases (by omega : x = 0 ∨ x = 1 ∨ x = 2 ∨ x = 3 ∨ x = 4 ∨ x = 5) with rfl | rfl | rfl | rfl | rfl | rfl <;> rfl
theorem LineB.setV {w : World} {lb : Nat} {m : Nat} (h : LineB w lb m) (a : Option Addr) (n c : Nat) : LineB (w.setCell ⟨lb, 2, none⟩ (.slice a n c)) lb n := by
  obtain ⟨ki, nm, vb, vc, re, inh, pa, hr, h1, h2⟩ := h
  refine ⟨ki, nm, a, c, re, inh, pa, (hr.set 2 _).congr (fun x hx => ?_), h1, h2⟩
  unfold lrowB
  rcases (by omega : x = 0 ∨ x = 1 ∨ x = 2 ∨ x = 3 ∨ x = 4 ∨ x = 5) with rfl | rfl | rfl | rfl | rfl | rfl <;> rfl

theorem LineB.facts {w : World} {lb : Nat} {m : Nat} (h : LineB w lb m) : ∃ (ki : ByteArray) (na : Option Addr) (nn nc : Nat) (vb : Option Addr) (vc : Nat) (re : ByteArray) (inh : Bool) (pa : Option Addr) (pn pc : Nat), w.cell? ⟨lb, 0, none⟩ = some (.string ki) ∧ w.cell? ⟨lb, 1, none⟩ = some (.slice na nn nc) ∧ w.cell? ⟨lb, 2, none⟩ = some (.slice vb m vc) ∧ w.cell? ⟨lb, 3, none⟩ = some (.string re) ∧ w.cell? ⟨lb, 4, none⟩ = some (.bool inh) ∧ w.cell? ⟨lb, 5, none⟩ = some (.slice pa pn pc) ∧ (∀ o, w.frozen? ⟨lb, o, none⟩ = false) ∧ w.rowIs lb 36 6 (lrowB ki (.slice na nn nc) (.slice vb m vc) re inh (.slice pa pn pc)) := by
  obtain ⟨ki, nm, vb, vc, re, inh, pa, hr, ⟨na, nn, nc, rfl⟩, ⟨pa, pn, pc, rfl⟩⟩ := h
  exact ⟨ki, na, nn, nc, vb, vc, re, inh, pa, pn, pc, hr.cell (i := 0) (by omega), hr.cell (i := 1) (by omega), hr.cell (i := 2) (by omega), hr.cell (i := 3) (by omega), hr.cell (i := 4) (by omega), hr.cell (i := 5) (by omega), hr.frozen, hr⟩

/-- what a trim leaves is a slice again, no longer -/
theorem trimB_w (sa : Option Addr) (B n cap : Nat) (F : Nat → Int) (hn : n ≤ 1048576) (w : World) (h : Hid (SL w sa B n cap F)) :
    Calls Yba.prog 9 #[.slice sa n cap] w fun e w' => ∃ r, e = .returned (.slice sa r cap) ∧ r ≤ n ∧ SL w sa B r cap F ∧ w' = w := by
  refine (trimB_sl sa B n cap F hn w h).mono ?_
  rintro e w' ⟨r, he, ht, hw⟩
  exact ⟨r, he, ht.le, h.out.take r ht.le, hw⟩
theorem trimLB_w (sa : Option Addr) (B n cap : Nat) (F : Nat → Int) (hn : n ≤ 1048576) (w : World) (h : Hid (SL w sa B n cap F)) :
    Calls Yba.prog 26 #[.slice sa n cap] w fun e w' => ∃ sb r c, e = .returned (.slice sb r c) ∧ r ≤ n ∧ w' = w := by
  refine (trimLB_any sa B n cap F hn w h).mono ?_
  rintro e w' ⟨r, sb, he, ht, _, hw⟩
  exact ⟨sb, n - r, cap - r, he, by omega, hw⟩

set_option maxHeartbeats 400000 in
theorem readHeaderB_any (lb : Nat) (sa : Option Addr) (B n cap m : Nat) (F : Nat → Int) (hn : n ≤ 4096) (w : World) (hs : Hid (SL w sa B n cap F)) (hl : Hid (LineB w lb m)) :
    Calls Yba.prog 27 #[.pointer (some ⟨lb, 0, none⟩), .slice sa n cap] w fun e w' => e = .returned (.tuple #[]) ∧ LineB w' lb m ∧ Chg (fun x => x = lb) w w' := by
  have ht := (show Hid _ from trimB_w sa B n cap F (by omega) w hs)
  obtain ⟨ki, na, nn, nc, vb, vc, re, inh, pa, pn, pc, c0, c1, c2, c3, c4, c5, fz, hrow⟩ := hl.out.facts
  have f0 := fz 0
  have f1 := fz 1
  have f3 := fz 3
  have f4 := fz 4
  have f5 := fz 5
  clear fz hrow
  go_enter Yba.func27, Yba.ntmps27
  go_wp2_with fail
  refine Calls.mono ht.out ?_
  rintro e w1 ⟨s, rfl, hsz, hss, hw1⟩
  have HS : Hid (SL w sa B s cap F) := hss
  subst hw1
  clear ht hss hs
  by_cases h2 : s < 2
  · have hd : decide ((s : Int) < 2) = true := by simp; omega
    go_wp2_with fail
    exact bodyPost_ret (results_none rfl _ _ _) rfl ⟨rfl, (hl.out.set 0 _ (by omega)).set 3 _ (by omega), (((Chg.refl (fun x => x = lb) w1).setCell (p := ⟨lb, 0, none⟩) (fun _ => rfl) _).setCell (p := ⟨lb, 3, none⟩) (fun _ => rfl) _)⟩
  · have hd : decide ((s : Int) < 2) = false := by simp; omega
    obtain ⟨o, ho⟩ := HS.out.form
    obtain ⟨hsa, hb⟩ := ho (s - 1) (by omega)
    have hnc := HS.out.1
    clear ho
    by_cases h3 : F (s - 1) = 93
    · have hd3 : (F (s - 1) != 93) = false := by simp [h3]
      clear h3
      have HS1 : Hid (SL w1 (subA sa 1 cap) B (s - 1 - 1) (cap - 1) (fun i => F (1 + i))) := (HS.out.take (s - 1) (by omega)).from 1 (by omega)
      have hsl : ∀ wx, (Instr.slice 25 (.slice sa s cap) (some (.int .i64 1)) (some (.int .i64 ((s : Int) - 1))) none).run Yba.prog wx = .ok (.slice (subA sa 1 cap) (s - 1 - 1) (cap - 1)) wx := fun wx => by
        have := sl_lh wx sa s cap 1 (s - 1) (by omega) (by omega)
        rw [← this]
        congr 4
        omega
      obtain ⟨nl, hnl⟩ : ∃ nl, nl = s - 1 - 1 := ⟨_, rfl⟩
      obtain ⟨c1', hc1'⟩ : ∃ c1', c1' = cap - 1 := ⟨_, rfl⟩
      rw [← hnl, ← hc1'] at HS1
      rw [← hnl, ← hc1'] at hsl
      have hnlb : nl ≤ 4096 := by omega
      clear hnl hc1'
      generalize subA sa 1 cap = sb at *
      subst hsa
      have hix := (show Hid _ from indexB_any sb B nl c1' (fun i => F (1 + i)) 58 (by omega) w1 HS1)
      go_wp2_with fail
      refine Calls.mono hix.out ?_
      rintro e w2 ⟨hi, hw2⟩
      subst hw2
      clear hix hb HS hsl
      have hnc1 := HS1.out.1
      rcases hi with ⟨i, rfl, hfi⟩ | ⟨rfl, _⟩
      · have hlt := hfi.lt
        clear hfi
        have HSa : Hid (SL w2 sb B i c1' (fun i => F (1 + i))) := HS1.out.take i (by omega)
        have HSb : Hid (SL w2 (subA sb (i + 1) c1') B (nl - (i + 1)) (c1' - (i + 1)) (fun k => F (1 + (i + 1 + k)))) := HS1.out.from (i + 1) (by omega)
        have hsl : ∀ wx, (Instr.slice 25 (.slice sb nl c1') (some (.int .i64 ((i : Int) + 1))) none none).run Yba.prog wx = .ok (.slice (subA sb (i + 1) c1') (nl - (i + 1)) (c1' - (i + 1))) wx := fun wx => by
          have := sl_l wx sb nl c1' (i + 1) (by omega)
          rw [← this]
          congr 4
        obtain ⟨pl, hpl⟩ : ∃ pl, pl = nl - (i + 1) := ⟨_, rfl⟩
        obtain ⟨c2', hc2'⟩ : ∃ c2', c2' = c1' - (i + 1) := ⟨_, rfl⟩
        rw [← hpl, ← hc2'] at HSb
        rw [← hpl, ← hc2'] at hsl
        have hplb : pl ≤ 4096 := by omega
        clear hpl hc2'
        generalize subA sb (i + 1) c1' = sc at *
        go_wp2_with fail
        go_quiet (fail)
        go_wp2_with fail
        clear hsl
        refine Calls.mono (trimB_w sb B i c1' _ (by omega) (w2.drewN nq) HSa) ?_
        rintro e w3 ⟨n1, rfl, hn1, hs3, hw3⟩
        rw [hw3]
        clear hw3
        have HS3 : Hid (SL (w2.drewN nq) sb B n1 c1' (fun i => F (1 + i))) := hs3
        clear hs3
        go_wp2_with fail
        refine Calls.mono (trimLB_w sb B n1 c1' _ (by omega) (w2.drewN nq) HS3) ?_
        rintro e w4 ⟨sn, n2, cn, rfl, hn2, hw3⟩
        rw [hw3]
        clear hw3 HS3
        by_cases h0 : n2 = 0
        · have hd0 : ((n2 : Int) == 0) = true := by simp [h0]
          clear h0
          go_wp2_with fail
          exact bodyPost_ret (results_none rfl _ _ _) rfl ⟨rfl, ((show LineB (w2.drewN nq) lb m from hl.out).set 0 _ (by omega)).set 3 _ (by omega), ((((Chg.refl (fun x => x = lb) w2).drewN nq).setCell (p := ⟨lb, 0, none⟩) (fun _ => rfl) _).setCell (p := ⟨lb, 3, none⟩) (fun _ => rfl) _)⟩
        · have hd0 : ((n2 : Int) == 0) = false := beq_eq_false_iff_ne.2 (by omega)
          go_wp2_with fail
          refine Calls.mono (trimB_w sc B pl c2' _ (by omega) (w2.drewN nq) HSb) ?_
          rintro e w5 ⟨p1, rfl, hp1, hs5, hw3⟩
          rw [hw3]
          clear hw3
          have HS5 : Hid (SL (w2.drewN nq) sc B p1 c2' (fun k => F (1 + (i + 1 + k)))) := hs5
          clear hs5
          go_wp2_with fail
          refine Calls.mono (trimLB_w sc B p1 c2' _ (by omega) (w2.drewN nq) HS5) ?_
          rintro e w6 ⟨sp, p2, cp, rfl, hp2, hw3⟩
          rw [hw3]
          clear hw3 HS5
          go_wp2_with fail
          go_end0
          exact ⟨rfl, (((((show LineB (w2.drewN nq) lb m from hl.out).set 0 _ (by omega)).setS 1 _ _ _ (by omega)).setB _).setS 5 _ _ _ (by omega)), ((((((Chg.refl (fun x => x = lb) w2).drewN nq).setCell (p := ⟨lb, 0, none⟩) (fun _ => rfl) _).setCell (p := ⟨lb, 1, none⟩) (fun _ => rfl) _).setCell (p := ⟨lb, 4, none⟩) (fun _ => rfl) _).setCell (p := ⟨lb, 5, none⟩) (fun _ => rfl) _)⟩
      · have HSn : Hid (SL w2 none B 0 0 (fun _ => 0)) := ⟨Nat.le_refl _, .inl rfl⟩
        go_wp2_with fail
        refine Calls.mono (trimB_w sb B nl c1' _ (by omega) w2 HS1) ?_
        rintro e w3 ⟨n1, rfl, hn1, hs3, hw3⟩
        rw [hw3]
        clear hw3
        have HS3 : Hid (SL w2 sb B n1 c1' (fun i => F (1 + i))) := hs3
        clear hs3
        go_wp2_with fail
        refine Calls.mono (trimLB_w sb B n1 c1' _ (by omega) w2 HS3) ?_
        rintro e w4 ⟨sn, n2, cn, rfl, hn2, hw3⟩
        rw [hw3]
        clear hw3 HS3
        by_cases h0 : n2 = 0
        · have hd0 : ((n2 : Int) == 0) = true := by simp [h0]
          clear h0
          go_wp2_with fail
          exact bodyPost_ret (results_none rfl _ _ _) rfl ⟨rfl, (hl.out.set 0 _ (by omega)).set 3 _ (by omega), (((Chg.refl (fun x => x = lb) w2).setCell (p := ⟨lb, 0, none⟩) (fun _ => rfl) _).setCell (p := ⟨lb, 3, none⟩) (fun _ => rfl) _)⟩
        · have hd0 : ((n2 : Int) == 0) = false := beq_eq_false_iff_ne.2 (by omega)
          go_wp2_with fail
          refine Calls.mono (trimB_w none B 0 0 (fun _ => 0) (by omega) w2 HSn) ?_
          rintro e w5 ⟨p1, rfl, hp1, hs5, hw3⟩
          rw [hw3]
          clear hw3
          have HS5 : Hid (SL w2 none B p1 0 (fun _ => 0)) := hs5
          clear hs5
          go_wp2_with fail
          refine Calls.mono (trimLB_w none B p1 0 _ (by omega) w2 HS5) ?_
          rintro e w6 ⟨sp, p2, cp, rfl, hp2, hw3⟩
          rw [hw3]
          clear hw3 HS5
          go_wp2_with fail
          go_end0
          exact ⟨rfl, ((((hl.out.set 0 _ (by omega)).setS 1 _ _ _ (by omega)).setB _).setS 5 _ _ _ (by omega)), (((((Chg.refl (fun x => x = lb) w2).setCell (p := ⟨lb, 0, none⟩) (fun _ => rfl) _).setCell (p := ⟨lb, 1, none⟩) (fun _ => rfl) _).setCell (p := ⟨lb, 4, none⟩) (fun _ => rfl) _).setCell (p := ⟨lb, 5, none⟩) (fun _ => rfl) _)⟩
    · have hd3 : (F (s - 1) != 93) = true := by simp [h3]
      clear h3
      subst hsa
      go_wp2_with fail
      exact bodyPost_ret (results_none rfl _ _ _) rfl ⟨rfl, (hl.out.set 0 _ (by omega)).set 3 _ (by omega), (((Chg.refl (fun x => x = lb) w1).setCell (p := ⟨lb, 0, none⟩) (fun _ => rfl) _).setCell (p := ⟨lb, 3, none⟩) (fun _ => rfl) _)⟩
end Go.Proofs.Ybulkcrak
