/-
  readLine[[]byte] (18), head[[]byte] (19), walked.
-/
import Derived.Test.YbulkcrakReadB
import Derived.Test.YbulkcrakHead
namespace Go.Proofs.Ybulkcrak
set_option linter.unusedVariables false
set_option linter.unusedSimpArgs false
open Go.RowKit Go.Deep

theorem line_newB (w : World) (ki : ByteArray) (nm va : Value) (re : ByteArray) (inh : Bool) (pa : Value) : (w.alloc (.cells #[.string ki, nm, va, .string re, .bool inh, pa] 36)).rowIs w.heap.size 36 6 (lrowB ki nm va re inh pa) := by
  refine ⟨_, blk_alloc_new w _, rfl, fun i hi => ?_⟩
  rcases (by omega : i = 0 ∨ i = 1 ∨ i = 2 ∨ i = 3 ∨ i = 4 ∨ i = 5) with rfl | rfl | rfl | rfl | rfl | rfl <;> rfl

set_option maxHeartbeats 400000 in
theorem readLineB_any (sa : Option Addr) (B cap : Nat) (a : ByteArray) (ha : a.size ≤ 2048) (w : World) (hs : Hid (SL w sa B a.size cap (bt a))) (hB : Hid (B < w.heap.size)) :
    Calls Yba.prog 18 #[.slice sa a.size cap] w fun e w' => ∃ (ki : ByteArray) (na : Option Addr) (nn nc : Nat) (vb : Option Addr) (m vc : Nat) (re : ByteArray) (inh : Bool) (pa : Option Addr) (pn pc : Nat), e = .returned (.agg #[.string ki, .slice na nn nc, .slice vb m vc, .string re, .bool inh, .slice pa pn pc]) ∧ Chg (fun x => w.heap.size ≤ x) w w' ∧ LenOk (a.extract 0 (cut a)) m := by
  go_enter Yba.func18, Yba.ntmps18
  go_wp2_with fail
  obtain ⟨W0, hW0⟩ : ∃ W0, W0 = w.alloc (.cells #[.string ⟨#[]⟩, .slice none 0 0, .slice none 0 0, .string ⟨#[]⟩, .bool false, .slice none 0 0] 36) := ⟨_, rfl⟩
  have s0 : W0.heap.size = w.heap.size + 1 := by rw [hW0]; simp
  have R0 : Hid (W0.rowIs w.heap.size 36 6 (lrowB ⟨#[]⟩ (.slice none 0 0) (.slice none 0 0) ⟨#[]⟩ false (.slice none 0 0))) := by rw [hW0]; exact line_newB w _ _ _ _ _ _
  have C0 : Hid (Chg (fun x => w.heap.size ≤ x) w W0) := by rw [hW0]; exact (Chg.refl _ _).alloc _
  rw [← hW0]
  clear hW0
  obtain ⟨W1, hW1⟩ : ∃ W1, W1 = W0.alloc (.cells #[.string ⟨#[]⟩, .slice none 0 0, .slice none 0 0, .string ⟨#[]⟩, .bool false, .slice none 0 0] 36) := ⟨_, rfl⟩
  have s1 : W1.heap.size = w.heap.size + 2 := by rw [hW1]; simp [s0]
  have R1 : Hid (W1.rowIs w.heap.size 36 6 (lrowB ⟨#[]⟩ (.slice none 0 0) (.slice none 0 0) ⟨#[]⟩ false (.slice none 0 0))) := by rw [hW1]; exact ((Chg.refl (fun _ => False) W0).alloc _).row R0.out (fun h => h)
  have L1 : Hid (LineB W1 (w.heap.size + 1) 0) := by
    rw [hW1]
    have := line_newB W0 ⟨#[]⟩ (.slice none 0 0) (.slice none 0 0) ⟨#[]⟩ false (.slice none 0 0)
    rw [s0] at this
    exact ⟨_, _, _, _, _, _, _, this, ⟨_, _, _, rfl⟩, ⟨_, _, _, rfl⟩⟩
  have C1 : Hid (Chg (fun x => w.heap.size ≤ x) w W1) := by rw [hW1]; exact C0.out.alloc _
  rw [← hW1]
  clear hW1 R0 C0
  have HS1 : Hid (SL W1 sa B a.size cap (bt a)) := hs.out.chg C1.out hB.out (by have := hB.out; omega)
  have HB1 : Hid (B < W1.heap.size ∧ B ≠ w.heap.size + 1) := by have := hB.out; exact ⟨by omega, by omega⟩
  clear hs hB
  refine Calls.mono (readB_any (w.heap.size + 1) sa B cap 0 a ha W1 HS1 L1 HB1) ?_
  rintro e w2 ⟨rfl, m, hl2, hc2, hok⟩
  have R2 : Hid (w2.rowIs w.heap.size 36 6 (lrowB ⟨#[]⟩ (.slice none 0 0) (.slice none 0 0) ⟨#[]⟩ false (.slice none 0 0))) := hc2.row R1.out (by omega)
  have C2 : Hid (Chg (fun x => w.heap.size ≤ x) w w2) := C1.out.andThen hc2 (fun b hb _ => by omega)
  have HOK : Hid (LenOk (a.extract 0 (cut a)) m) := hok
  obtain ⟨ki, na, nn, nc, vb, vc, re, inh, pa, pn, pc, c0, c1, c2, c3, c4, c5, fz, hrow⟩ := hl2.facts
  clear fz hrow hc2 hok hl2 C1 R1 L1
  have d0 := R2.out.cell (i := 0) (by omega)
  have d1 := R2.out.cell (i := 1) (by omega)
  have d2 := R2.out.cell (i := 2) (by omega)
  have d3 := R2.out.cell (i := 3) (by omega)
  have d4 := R2.out.cell (i := 4) (by omega)
  have d5 := R2.out.cell (i := 5) (by omega)
  simp [lrowB] at d0 d1 d2 d3 d4 d5
  have g0 := R2.out.frozen 0
  have g1 := R2.out.frozen 1
  have g2 := R2.out.frozen 2
  have g3 := R2.out.frozen 3
  have g4 := R2.out.frozen 4
  have g5 := R2.out.frozen 5
  go_wp2_with fail
  refine bodyPost_ret (v := .agg #[.string ki, .slice na nn nc, .slice vb m vc, .string re, .bool inh, .slice pa pn pc]) ?_ rfl ⟨ki, na, nn, nc, vb, m, vc, re, inh, pa, pn, pc, rfl, ?_, HOK.out⟩
  · rw [results_cell1 rfl]
    go_simp
  · exact (((((C2.out.setCell (p := ⟨w.heap.size, 0, none⟩) (fun h => absurd h (Nat.lt_irrefl _)) _).setCell (p := ⟨w.heap.size, 1, none⟩) (fun h => absurd h (Nat.lt_irrefl _)) _).setCell (p := ⟨w.heap.size, 2, none⟩) (fun h => absurd h (Nat.lt_irrefl _)) _).setCell (p := ⟨w.heap.size, 3, none⟩) (fun h => absurd h (Nat.lt_irrefl _)) _).setCell (p := ⟨w.heap.size, 4, none⟩) (fun h => absurd h (Nat.lt_irrefl _)) _).setCell (p := ⟨w.heap.size, 5, none⟩) (fun h => absurd h (Nat.lt_irrefl _)) _

theorem TrimF.unique {F : Nat → Int} {n r r' : Nat} (h : TrimF F n r) (h' : TrimF F n r') : r = r' := by
  rcases Nat.lt_trichotomy r r' with hl | hl | hl
  · have := h'.last (by omega); rw [h.rest (r' - 1) (by omega) (by have := h'.le; omega)] at this; cases this
  · exact hl
  · have := h.last (by omega); rw [h'.rest (r - 1) (by omega) (by have := h.le; omega)] at this; cases this
theorem HasVal.trimF {F : Nat → Int} {n i e p q : Nat} (h : HasVal F n i e p q) : TrimF F n q := ⟨h.qn, fun _ => h.qb, h.rest⟩
theorem trimB_at (sa : Option Addr) (B n cap : Nat) (F : Nat → Int) (hn : n ≤ 1048576) (r : Nat) (hr : TrimF F n r) (w : World) (h : Hid (SL w sa B n cap F)) (k : Nat) :
    Calls Yba.prog 9 #[.slice sa n cap] (w.drewN k) fun e w' => e = .returned (.slice sa r cap) ∧ w' = w.drewN k := by
  refine (trimB_sl sa B n cap F hn (w.drewN k) h).mono ?_
  rintro e w' ⟨r', he, ht, hw⟩
  obtain rfl := hr.unique ht
  exact ⟨he, hw⟩

/-- how long the head is -/
def HLen (c : ByteArray) (p : Nat) : Prop := (∃ i e q, HasVal (bt c) c.size i e p q) ∨ ((∀ i e p q, ¬ HasVal (bt c) c.size i e p q) ∧ p = c.size)

set_option maxHeartbeats 400000 in
theorem headB_any (sa : Option Addr) (B cap : Nat) (a : ByteArray) (ki : ByteArray) (na : Option Addr) (nn nc : Nat) (vb : Option Addr) (m vc : Nat) (re : ByteArray) (inh : Bool) (pa : Option Addr) (pn pc : Nat) (ha : a.size ≤ 2048) (w : World) (hs : Hid (SL w sa B a.size cap (bt a))) (hB : Hid (B < w.heap.size)) (hok : Hid (LenOk (a.extract 0 (cut a)) m)) :
    Calls Yba.prog 19 #[.agg #[.string ki, .slice na nn nc, .slice vb m vc, .string re, .bool inh, .slice pa pn pc], .slice sa a.size cap] w fun e w' => ∃ h, e = .returned (.slice sa h cap) ∧ HLen (a.extract 0 (cut a)) h ∧ Chg (fun x => w.heap.size ≤ x) w w' := by
  go_enter Yba.func19, Yba.ntmps19
  go_wp2_with fail
  obtain ⟨W0, hW0⟩ : ∃ W0, W0 = w.alloc (.cells #[.string ki, .slice na nn nc, .slice vb m vc, .string re, .bool inh, .slice pa pn pc] 36) := ⟨_, rfl⟩
  have R0 : Hid (W0.rowIs w.heap.size 36 6 (lrowB ki (.slice na nn nc) (.slice vb m vc) re inh (.slice pa pn pc))) := by rw [hW0]; exact line_newB w _ _ _ _ _ _
  have C0 : Hid (Chg (fun x => w.heap.size ≤ x) w W0) := by rw [hW0]; exact (Chg.refl _ _).alloc _
  rw [← hW0]
  clear hW0
  have d2 := R0.out.cell (i := 2) (by omega)
  simp [lrowB] at d2
  have HS0 : Hid (SL W0 sa B a.size cap (bt a)) := hs.out.chg C0.out hB.out (by have := hB.out; omega)
  have hcont := (show Hid _ from contentB_any sa B cap a (by omega) W0 HS0)
  obtain ⟨cc, hcc⟩ : ∃ cc, cc = a.extract 0 (cut a) := ⟨_, rfl⟩
  have hcs : cut a = cc.size := by rw [hcc]; simp; have := cut_le a; omega
  have hcz : cc.size ≤ 2048 := by rw [← hcs]; have := cut_le a; omega
  have HS : Hid (SL W0 sa B cc.size cap (bt cc)) := (HS0.out.take cc.size (by rw [← hcs]; exact cut_le a)).congr (fun i hi => by rw [hcc, bt_ext a 0 (cut a) i (cut_le a) (by omega), Nat.zero_add])
  rw [hcs] at hcont
  rw [← hcc] at hok
  have HCC : Hid (cc = a.extract 0 (cut a)) := hcc
  clear hcc hcs HS0 hs hB
  have hccap := HS.out.1
  refine Calls.mono hcont.out ?_
  rintro e w2 ⟨rfl, hw2⟩
  rw [hw2]
  clear hw2 hcont
  rcases hok.out with ⟨i, e, p, q, hv, hmv⟩ | ⟨hno, hz⟩
  · have h1 := hv.pq
    have h2 := hv.qn
    have hvs : p + m = q := by omega
    have HV : Hid (HasVal (bt cc) cc.size i e p q) := hv
    have htr := (show Hid _ from trimB_at sa B cc.size cap (bt cc) (by omega) q hv.trimF W0 HS)
    clear hv hmv
    have hd0 : ((m : Int) == 0) = false := beq_eq_false_iff_ne.2 (by omega)
    go_wp2_with fail
    go_quiet (first | (go_at_call 9; exact Calls.quiet_of_same (htr.out _)))
    go_wp2_with fail
    go_ret
    exact ⟨_, rfl, by rw [← HCC.out]; exact .inl ⟨i, e, q, by have : q - m = p := by omega
                                                              rw [this]; exact HV.out⟩, C0.out.drewN _⟩
  · have HN : Hid (∀ i e p q, ¬ HasVal (bt cc) cc.size i e p q) := hno
    have hd0 : ((m : Int) == 0) = true := by rw [hz]; rfl
    clear hno hz
    go_wp2_with fail
    go_ret
    exact ⟨_, rfl, by rw [← HCC.out]; exact .inr ⟨HN.out, rfl⟩, C0.out⟩
end Go.Proofs.Ybulkcrak
