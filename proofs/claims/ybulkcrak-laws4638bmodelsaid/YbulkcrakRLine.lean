/-
  readLine[string] (12), walked.
-/
import Derived.Test.YbulkcrakRead
namespace Go.Proofs.Ybulkcrak
set_option linter.unusedVariables false
set_option linter.unusedSimpArgs false
open Go.RowKit Go.Deep

theorem results_cell1 {P : Program} {fn : Func} {tmps : Array Value} {p : Nat} {ty : TypeId} (h : fn.results = #[.cell p ty]) (w : World) :
    (results fn tmps).run P w = ((asAddr (tmps.getD p undef)).run P w).andThen fun a w₁ => (loadVar ty a).run P w₁ := by
  simp only [results, h]
  simp [Sem.run_bind, Result.andThen]

theorem line_new (w : World) (ki nm va re : ByteArray) (inh : Bool) (pa : ByteArray) : (w.alloc (.cells #[.string ki, .string nm, .string va, .string re, .bool inh, .string pa] 33)).rowIs w.heap.size 33 6 (lrow ki nm va re inh pa) := by
  refine ⟨_, blk_alloc_new w _, rfl, fun i hi => ?_⟩
  rcases (by omega : i = 0 ∨ i = 1 ∨ i = 2 ∨ i = 3 ∨ i = 4 ∨ i = 5) with rfl | rfl | rfl | rfl | rfl | rfl <;> rfl

set_option maxHeartbeats 400000 in
theorem readLine_any (a : ByteArray) (ha : a.size ≤ 2048) (w : World) :
    Calls Yba.prog 12 #[.string a] w fun e w' => ∃ (ki nm v re : ByteArray) (inh : Bool) (pa : ByteArray), e = .returned (.agg #[.string ki, .string nm, .string v, .string re, .bool inh, .string pa]) ∧ Chg (fun x => w.heap.size ≤ x) w w' ∧ ReadOk (a.extract 0 (cut a)) v := by
  go_enter Yba.func12, Yba.ntmps12
  go_wp2_with fail
  obtain ⟨W0, hW0⟩ : ∃ W0, W0 = w.alloc (.cells #[.string ⟨#[]⟩, .string ⟨#[]⟩, .string ⟨#[]⟩, .string ⟨#[]⟩, .bool false, .string ⟨#[]⟩] 33) := ⟨_, rfl⟩
  have s0 : W0.heap.size = w.heap.size + 1 := by rw [hW0]; simp
  have R0 : Hid (W0.rowIs w.heap.size 33 6 (lrow ⟨#[]⟩ ⟨#[]⟩ ⟨#[]⟩ ⟨#[]⟩ false ⟨#[]⟩)) := by rw [hW0]; exact line_new w _ _ _ _ _ _
  have C0 : Hid (Chg (fun x => w.heap.size ≤ x) w W0) := by rw [hW0]; exact (Chg.refl _ _).alloc _
  rw [← hW0]
  clear hW0
  obtain ⟨W1, hW1⟩ : ∃ W1, W1 = W0.alloc (.cells #[.string ⟨#[]⟩, .string ⟨#[]⟩, .string ⟨#[]⟩, .string ⟨#[]⟩, .bool false, .string ⟨#[]⟩] 33) := ⟨_, rfl⟩
  have s1 : W1.heap.size = w.heap.size + 2 := by rw [hW1]; simp [s0]
  have R1 : Hid (W1.rowIs w.heap.size 33 6 (lrow ⟨#[]⟩ ⟨#[]⟩ ⟨#[]⟩ ⟨#[]⟩ false ⟨#[]⟩)) := by rw [hW1]; exact ((Chg.refl (fun _ => False) W0).alloc _).row R0.out (fun h => h)
  have L1 : Hid (LineIs W1 (w.heap.size + 1) ⟨#[]⟩) := by
    rw [hW1]
    have := line_new W0 ⟨#[]⟩ ⟨#[]⟩ ⟨#[]⟩ ⟨#[]⟩ false ⟨#[]⟩
    rw [s0] at this
    exact ⟨_, _, _, _, _, this⟩
  have C1 : Hid (Chg (fun x => w.heap.size ≤ x) w W1) := by rw [hW1]; exact C0.out.alloc _
  rw [← hW1]
  clear hW1 R0 C0
  refine Calls.mono (read_any (w.heap.size + 1) a ⟨#[]⟩ ha W1 L1) ?_
  rintro e w2 ⟨rfl, v, hl2, hc2, hok⟩
  have R2 : Hid (w2.rowIs w.heap.size 33 6 (lrow ⟨#[]⟩ ⟨#[]⟩ ⟨#[]⟩ ⟨#[]⟩ false ⟨#[]⟩)) := hc2.row R1.out (by omega)
  have C2 : Hid (Chg (fun x => w.heap.size ≤ x) w w2) := C1.out.andThen hc2 (fun b hb _ => by omega)
  have HOK : Hid (ReadOk (a.extract 0 (cut a)) v) := hok
  obtain ⟨ki, nm, re, inh, pa, c0, c1, c2, c3, c4, c5, fz⟩ := hl2.facts
  have L2 : Hid (LineIs w2 (w.heap.size + 1) v) := hl2
  clear fz hc2 hok hl2 C1 R1 L1
  have d0 := R2.out.cell (i := 0) (by omega)
  have d1 := R2.out.cell (i := 1) (by omega)
  have d2 := R2.out.cell (i := 2) (by omega)
  have d3 := R2.out.cell (i := 3) (by omega)
  have d4 := R2.out.cell (i := 4) (by omega)
  have d5 := R2.out.cell (i := 5) (by omega)
  simp [lrow] at d0 d1 d2 d3 d4 d5
  have g0 := R2.out.frozen 0
  have g1 := R2.out.frozen 1
  have g2 := R2.out.frozen 2
  have g3 := R2.out.frozen 3
  have g4 := R2.out.frozen 4
  have g5 := R2.out.frozen 5
  go_wp2_with fail
  refine bodyPost_ret (v := .agg #[.string ki, .string nm, .string v, .string re, .bool inh, .string pa]) ?_ rfl ⟨ki, nm, v, re, inh, pa, rfl, ?_, HOK.out⟩
  · rw [results_cell1 rfl]
    go_simp
  · exact (((((C2.out.setCell (p := ⟨w.heap.size, 0, none⟩) (fun h => absurd h (Nat.lt_irrefl _)) _).setCell (p := ⟨w.heap.size, 1, none⟩) (fun h => absurd h (Nat.lt_irrefl _)) _).setCell (p := ⟨w.heap.size, 2, none⟩) (fun h => absurd h (Nat.lt_irrefl _)) _).setCell (p := ⟨w.heap.size, 3, none⟩) (fun h => absurd h (Nat.lt_irrefl _)) _).setCell (p := ⟨w.heap.size, 4, none⟩) (fun h => absurd h (Nat.lt_irrefl _)) _).setCell (p := ⟨w.heap.size, 5, none⟩) (fun h => absurd h (Nat.lt_irrefl _)) _

end Go.Proofs.Ybulkcrak
