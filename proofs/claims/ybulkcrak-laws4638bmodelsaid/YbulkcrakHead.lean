/-
  head[string] (13), walked.
-/
import Derived.Test.YbulkcrakRLine
namespace Go.Proofs.Ybulkcrak
set_option linter.unusedVariables false
set_option linter.unusedSimpArgs false
open Go.RowKit Go.Deep

/-- what head leaves of a content -/
def HeadOk (c h : ByteArray) : Prop := (∃ i e p q, HasVal (bt c) c.size i e p q ∧ h = c.extract 0 p) ∨ ((∀ i e p q, ¬ HasVal (bt c) c.size i e p q) ∧ h = c)

theorem HasVal.trimmed {c : ByteArray} {i e p q : Nat} (h : HasVal (bt c) c.size i e p q) : Trimmed c q := ⟨h.qn, fun _ => h.qb, h.rest⟩
theorem trimS_at (a : ByteArray) (ha : a.size ≤ 1048576) (r : Nat) (h : Trimmed a r) (w : World) : Calls Yba.prog 7 #[.string a] w fun e w' => e = .returned (.string (a.extract 0 r)) ∧ w' = w := by
  refine (trimS_any a ha w).mono ?_
  rintro e w' ⟨r', he, ht, hw⟩
  obtain rfl := h.unique ht
  exact ⟨he, hw⟩

set_option maxHeartbeats 400000 in
theorem head_any (a ki nm v re : ByteArray) (inh : Bool) (pa : ByteArray) (ha : a.size ≤ 2048) (w : World) (hok : Hid (ReadOk (a.extract 0 (cut a)) v)) :
    Calls Yba.prog 13 #[.agg #[.string ki, .string nm, .string v, .string re, .bool inh, .string pa], .string a] w fun e w' => ∃ h, e = .returned (.string h) ∧ HeadOk (a.extract 0 (cut a)) h ∧ Chg (fun x => w.heap.size ≤ x) w w' := by
  go_enter Yba.func13, Yba.ntmps13
  go_wp2_with fail
  obtain ⟨W0, hW0⟩ : ∃ W0, W0 = w.alloc (.cells #[.string ki, .string nm, .string v, .string re, .bool inh, .string pa] 33) := ⟨_, rfl⟩
  have R0 : Hid (W0.rowIs w.heap.size 33 6 (lrow ki nm v re inh pa)) := by rw [hW0]; exact line_new w _ _ _ _ _ _
  have C0 : Hid (Chg (fun x => w.heap.size ≤ x) w W0) := by rw [hW0]; exact (Chg.refl _ _).alloc _
  rw [← hW0]
  clear hW0
  have d2 := R0.out.cell (i := 2) (by omega)
  simp [lrow] at d2
  have hcz : (a.extract 0 (cut a)).size ≤ 2048 := by simp; have := cut_le a; omega
  have hcont := (show Hid _ from content_any a (by omega) W0)
  obtain ⟨cc, hcc⟩ : ∃ cc, cc = a.extract 0 (cut a) := ⟨_, rfl⟩
  rw [← hcc] at hcz hcont hok
  have HCC : Hid (cc = a.extract 0 (cut a)) := hcc
  clear hcc
  refine Calls.mono hcont.out ?_
  rintro e w2 ⟨rfl, hw2⟩
  rw [hw2]
  clear hw2 hcont
  rcases hok.out with ⟨i, e, p, q, hv, hvv⟩ | ⟨hno, hz⟩
  · have h1 := hv.pq
    have h2 := hv.qn
    have hvs : p + v.size = q := by rw [hvv]; simp; omega
    have HV : Hid (HasVal (bt cc) cc.size i e p q) := hv
    have htr := (show Hid _ from trimS_at cc (by omega) q hv.trimmed)
    have hqs : (cc.extract 0 q).size = q := by simp; omega
    clear hv hvv
    have hd0 : ((v.size : Int) == 0) = false := beq_eq_false_iff_ne.2 (by omega)
    generalize cc.extract 0 q = cq at *
    go_wp2_with fail
    go_quiet (first | (go_at_call 7; exact Calls.quiet_of_same (htr.out _)))
    go_wp2_with fail
    go_ret
    exact ⟨_, rfl, by rw [← HCC.out]; exact .inl ⟨i, e, p, q, HV.out, by congr 1; omega⟩, C0.out.drewN _⟩
  · have HN : Hid (∀ i e p q, ¬ HasVal (bt cc) cc.size i e p q) := hno
    have hd0 : ((v.size : Int) == 0) = true := by rw [hz]; rfl
    clear hno hz
    go_wp2_with fail
    go_ret
    exact ⟨_, rfl, by rw [← HCC.out]; exact .inr ⟨HN.out, rfl⟩, C0.out⟩
end Go.Proofs.Ybulkcrak
