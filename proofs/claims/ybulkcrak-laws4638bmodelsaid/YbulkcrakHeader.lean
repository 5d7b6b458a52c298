/-
  readHeader[string] (24), walked.
-/
import Derived.Test.YbulkcrakLine
import Derived.Laws.Strings2
namespace Go.Proofs.Ybulkcrak
set_option linter.unusedVariables false
set_option linter.unusedSimpArgs false
open Go.RowKit Go.Deep

theorem LineIs.facts {w : World} {lb : Nat} {va : ByteArray} (h : LineIs w lb va) : ∃ (ki nm re : ByteArray) (inh : Bool) (pa : ByteArray), w.cell? ⟨lb, 0, none⟩ = some (.string ki) ∧ w.cell? ⟨lb, 1, none⟩ = some (.string nm) ∧ w.cell? ⟨lb, 2, none⟩ = some (.string va) ∧ w.cell? ⟨lb, 3, none⟩ = some (.string re) ∧ w.cell? ⟨lb, 4, none⟩ = some (.bool inh) ∧ w.cell? ⟨lb, 5, none⟩ = some (.string pa) ∧ ∀ o, w.frozen? ⟨lb, o, none⟩ = false := by
  obtain ⟨ki, nm, re, inh, pa, hr⟩ := h
  exact ⟨ki, nm, re, inh, pa, hr.cell (i := 0) (by omega), hr.cell (i := 1) (by omega), hr.cell (i := 2) (by omega), hr.cell (i := 3) (by omega), hr.cell (i := 4) (by omega), hr.cell (i := 5) (by omega), hr.frozen⟩

set_option maxHeartbeats 400000 in
theorem readHeader_any (lb : Nat) (a va : ByteArray) (ha : a.size ≤ 4096) (w : World) (hl : Hid (LineIs w lb va)) :
    Calls Yba.prog 24 #[.pointer (some ⟨lb, 0, none⟩), .string a] w fun e w' => e = .returned (.tuple #[]) ∧ LineIs w' lb va ∧ Chg (fun x => x = lb) w w' := by
  have ht := (show Hid _ from trimS_w a (by omega) w)
  obtain ⟨ki, nm, re, inh, pa, c0, c1, c2, c3, c4, c5, fz⟩ := hl.out.facts
  have f0 := fz 0
  have f1 := fz 1
  have f3 := fz 3
  have f4 := fz 4
  have f5 := fz 5
  clear fz
  go_enter Yba.func24, Yba.ntmps24
  go_wp2_with fail
  refine Calls.mono ht.out ?_
  rintro e w1 ⟨s, rfl, hs, hw1⟩
  subst hw1
  clear ht
  by_cases h2 : s.size < 2
  · have hd : decide ((s.size : Int) < 2) = true := by simp; omega
    go_wp2_with fail
    exact bodyPost_ret (results_none rfl _ _ _) rfl ⟨rfl, (hl.out.set 0 _ (by omega)).set 3 _ (by omega), (((Chg.refl (fun x => x = lb) w1).setCell (p := ⟨lb, 0, none⟩) (fun _ => rfl) _).setCell (p := ⟨lb, 3, none⟩) (fun _ => rfl) _)⟩
  · have hd : decide ((s.size : Int) < 2) = false := by simp; omega
    have hb := bt_eq s (s.size - 1) (by omega)
    by_cases h3 : bt s (s.size - 1) = 93
    · have hd3 : (bt s (s.size - 1) != 93) = false := by simp [h3]
      have hix := (show Hid _ from indexS_any (s.extract 1 (s.size - 1)) 58 (by simp; omega) w1)
      have hsz : (s.extract 1 (s.size - 1)).size ≤ 4096 := by simp; omega
      clear h3
      have hsl : ∀ wx, (Instr.slice 9 (.string s) (some (.int .i64 1)) (some (.int .i64 ((s.size : Int) - 1))) none).run Yba.prog wx = .ok (.string (s.extract 1 (s.size - 1))) wx := fun wx => by
        have := run_slice_string (P := Yba.prog) wx 9 s .i64 .i64 1 ((s.size : Int) - 1) Yba.underlying9 (by omega) (by omega) (by omega)
        rw [this]
        congr 3
        omega
      generalize s.extract 1 (s.size - 1) = nn at *
      go_wp2_with fail
      refine Calls.mono hix.out ?_
      rintro e w2 ⟨hi, hw2⟩
      subst hw2
      clear hix
      rcases hi with ⟨i, rfl, hfi⟩ | ⟨rfl, _⟩
      · have hlt := hfi.lt
        clear hfi
        have hw1 : IntKind.i64.wrap ((i : Int) + 1) = (i : Int) + 1 := by rw [IntKind.wrap_i64]; omega
        have z1 : (nn.extract 0 i).size ≤ 4096 := by simp; omega
        have z2 : (nn.extract (i + 1) nn.size).size ≤ 4096 := by simp; omega
        go_wp2_with fail
        go_quiet (fail)
        go_wp2_with fail
        refine Calls.mono (trimS_w (nn.extract 0 i) (by omega) _) ?_
        rintro e w3 ⟨n1, rfl, hn1, hw3⟩
        rw [hw3]
        clear hw3
        go_wp2_with fail
        refine Calls.mono (trimLS_w n1 (by omega) _) ?_
        rintro e w4 ⟨n2, rfl, hn2, hw3⟩
        rw [hw3]
        clear hw3
        by_cases h0 : n2.size = 0
        · have hd0 : ((n2.size : Int) == 0) = true := by simp [h0]
          clear h0
          go_wp2_with fail
          exact bodyPost_ret (results_none rfl _ _ _) rfl ⟨rfl, ((show LineIs (w2.drewN nq) lb va from hl.out).set 0 _ (by omega)).set 3 _ (by omega), ((((Chg.refl (fun x => x = lb) w2).drewN nq).setCell (p := ⟨lb, 0, none⟩) (fun _ => rfl) _).setCell (p := ⟨lb, 3, none⟩) (fun _ => rfl) _)⟩
        · have hd0 : ((n2.size : Int) == 0) = false := beq_eq_false_iff_ne.2 (by omega)
          go_wp2_with fail
          refine Calls.mono (trimS_w (nn.extract (i + 1) nn.size) (by omega) _) ?_
          rintro e w5 ⟨p1, rfl, hp1, hw3⟩
          rw [hw3]
          clear hw3
          go_wp2_with fail
          refine Calls.mono (trimLS_w p1 (by omega) _) ?_
          rintro e w6 ⟨p2, rfl, hp2, hw3⟩
          rw [hw3]
          clear hw3
          go_wp2_with fail
          go_end0
          exact ⟨rfl, (((((show LineIs (w2.drewN nq) lb va from hl.out).set 0 _ (by omega)).set 1 _ (by omega)).setB _).set 5 _ (by omega)), ((((((Chg.refl (fun x => x = lb) w2).drewN nq).setCell (p := ⟨lb, 0, none⟩) (fun _ => rfl) _).setCell (p := ⟨lb, 1, none⟩) (fun _ => rfl) _).setCell (p := ⟨lb, 4, none⟩) (fun _ => rfl) _).setCell (p := ⟨lb, 5, none⟩) (fun _ => rfl) _)⟩
      · go_wp2_with fail
        refine Calls.mono (trimS_w nn (by omega) _) ?_
        rintro e w3 ⟨n1, rfl, hn1, hw3⟩
        rw [hw3]
        clear hw3
        go_wp2_with fail
        refine Calls.mono (trimLS_w n1 (by omega) _) ?_
        rintro e w4 ⟨n2, rfl, hn2, hw3⟩
        rw [hw3]
        clear hw3
        by_cases h0 : n2.size = 0
        · have hd0 : ((n2.size : Int) == 0) = true := by simp [h0]
          clear h0
          go_wp2_with fail
          exact bodyPost_ret (results_none rfl _ _ _) rfl ⟨rfl, (hl.out.set 0 _ (by omega)).set 3 _ (by omega), (((Chg.refl (fun x => x = lb) w2).setCell (p := ⟨lb, 0, none⟩) (fun _ => rfl) _).setCell (p := ⟨lb, 3, none⟩) (fun _ => rfl) _)⟩
        · have hd0 : ((n2.size : Int) == 0) = false := beq_eq_false_iff_ne.2 (by omega)
          go_wp2_with fail
          refine Calls.mono (trimS_w ⟨#[]⟩ (by decide) _) ?_
          rintro e w5 ⟨p1, rfl, hp1, hw3⟩
          rw [hw3]
          clear hw3
          go_wp2_with fail
          refine Calls.mono (trimLS_w p1 (Nat.le_trans hp1 (by decide)) _) ?_
          rintro e w6 ⟨p2, rfl, hp2, hw3⟩
          rw [hw3]
          clear hw3
          go_wp2_with fail
          go_end0
          exact ⟨rfl, ((((hl.out.set 0 _ (by omega)).set 1 _ (by omega)).setB _).set 5 _ (by omega)), (((((Chg.refl (fun x => x = lb) w2).setCell (p := ⟨lb, 0, none⟩) (fun _ => rfl) _).setCell (p := ⟨lb, 1, none⟩) (fun _ => rfl) _).setCell (p := ⟨lb, 4, none⟩) (fun _ => rfl) _).setCell (p := ⟨lb, 5, none⟩) (fun _ => rfl) _)⟩
    · have hd3 : (bt s (s.size - 1) != 93) = true := by simp [h3]
      clear h3
      go_wp2_with fail
      exact bodyPost_ret (results_none rfl _ _ _) rfl ⟨rfl, (hl.out.set 0 _ (by omega)).set 3 _ (by omega), (((Chg.refl (fun x => x = lb) w1).setCell (p := ⟨lb, 0, none⟩) (fun _ => rfl) _).setCell (p := ⟨lb, 3, none⟩) (fun _ => rfl) _)⟩
end Go.Proofs.Ybulkcrak
