/-
  (*simulator).compact (14), walked.
-/
import Derived.Test.YbulkcqyuBLeaf
import Derived.Deep.RegionHeld3
import Derived.Deep.DrawnRows
namespace Go.Proofs.Ybulkcqyu
set_option linter.unusedVariables false
set_option linter.unusedSimpArgs false
open Go.RowKit Go.Deep

set_option maxHeartbeats 400000 in
theorem compact_any (b0 bs bh bhd g : Nat) (m k j n cap : Nat) (hv : Nat → Value) (hd : Nat → Int) (X : Nat → Nat) (w : World) (hj : j < m) (hk : k ≤ 300) (hm : m ≤ 16) (hn : n ≤ 300) (hncap : n ≤ cap)
    (c0 : w.cell? ⟨bs, 0, none⟩ = some (.pointer (some ⟨b0, 0, none⟩)))
    (c1 : w.cell? ⟨b0, 0, none⟩ = some (.int .i64 m))
    (c2 : w.cell? ⟨bs, 2, none⟩ = some (.int .i64 k))
    (c7 : w.cell? ⟨bs, 7, none⟩ = some (.slice (some ⟨bh, 0, none⟩) (k * m) (k * m)))
    (c8 : w.cell? ⟨bs, 8, none⟩ = some (.slice (some ⟨bhd, 0, none⟩) m m))
    (rh : Hid (w.rowIs bh 3 (k * m) (fun i => .int .i64 (hd i))))
    (rhd : Hid (w.rowIs bhd 33 m hv)) (ehv : Hid (hv j = .slice (some ⟨g, 0, none⟩) n cap))
    (F0 : Nat → Value) (rg : Hid (w.rowIs g 3 cap F0)) (hF0 : Hid (∀ t, t < n → F0 t = .int .i64 (X t))) (hX : Hid (∀ t, t < n → X t < k))
    (n1 : g ≠ bs) (n2 : g ≠ bhd) (n3 : g ≠ bh) (n4 : g ≠ b0) (n5 : bhd ≠ bs) :
    Calls Yba.prog 14 #[.pointer (some ⟨bs, 0, none⟩), .int .i64 j] w fun e w' => ∃ v n', e = .returned v ∧ Chg (fun b => b = g ∨ b = bhd) w w' ∧
      w'.rowIs bhd 33 m (fun i => if i = j then .slice (some ⟨g, 0, none⟩) n' cap else hv i) ∧ n' = (kept (fun x => hd (x.toNat * m + j) != x) (fun t => X t) n).length ∧
      ∃ F, w'.rowIs g 3 cap F ∧ ∀ t, t < n' → F t = .int .i64 ((kept (fun x => hd (x.toNat * m + j) != x) (fun t => X t) n).getD t 0) := by
  have c9 : w.cell? ⟨bhd, j, none⟩ = some (.slice (some ⟨g, 0, none⟩) n cap) := by rw [← ehv.out]; exact rhd.out.cell hj
  have l1 : bs < w.heap.size := World.block_lt_of_cell? w _ c0
  have l2 : b0 < w.heap.size := World.block_lt_of_cell? w _ c1
  have l3 : bhd < w.heap.size := World.block_lt_of_cell? w _ c9
  have l4 : g < w.heap.size := rg.out.lt
  have l5 : bh < w.heap.size := rh.out.lt
  obtain ⟨W, hW⟩ : ∃ W, W = ((w.alloc (.cells #[.pointer (some ⟨bs, 0, none⟩)] 28)).alloc (.cells #[.int .i64 j] 3)).alloc (.cells #[.int .i64 m] 3) := ⟨_, rfl⟩
  have hwW : Chg (fun _ => False) w W := by rw [hW]; exact (((Chg.refl _ _).alloc _).alloc _).alloc _
  have s1 : W.heap.size = w.heap.size + 1 + 1 + 1 := by rw [hW]; simp
  have d1 : W.cell? ⟨w.heap.size, 0, none⟩ = some (.pointer (some ⟨bs, 0, none⟩)) := by rw [hW]; simp [go_sem]
  have d2 : W.cell? ⟨w.heap.size + 1, 0, none⟩ = some (.int .i64 j) := by rw [hW]; simp [go_sem]
  have d3 : W.cell? ⟨w.heap.size + 1 + 1, 0, none⟩ = some (.int .i64 m) := by rw [hW]; simp [go_sem]
  have e1 : W.cell? ⟨bs, 8, none⟩ = some (.slice (some ⟨bhd, 0, none⟩) m m) := by rw [hwW.cell (by exact l1) (fun h => h)]; exact c8
  have e2 : W.cell? ⟨bhd, j, none⟩ = some (.slice (some ⟨g, 0, none⟩) n cap) := by rw [hwW.cell (by exact l3) (fun h => h)]; exact c9
  have f2 : W.frozen? ⟨bhd, j, none⟩ = false := by rw [hwW.frozen (by exact l3) (fun h => h)]; exact rhd.out.frozen _
  have e3 : W.cell? ⟨bs, 7, none⟩ = some (.slice (some ⟨bh, 0, none⟩) (k * m) (k * m)) := by rw [hwW.cell (by exact l1) (fun h => h)]; exact c7
  have e4 : W.cell? ⟨bs, 2, none⟩ = some (.int .i64 k) := by rw [hwW.cell (by exact l1) (fun h => h)]; exact c2
  have HW : Hid (Chg (fun _ => False) w W) := hwW
  have rhW : W.rowIs bh 3 (k * m) (fun i => .int .i64 (hd i)) := hwW.row rh.out (fun h => h)
  have rgW : W.rowIs g 3 cap F0 := hwW.row rg.out (fun h => h)
  have rhdW : Hid (W.rowIs bhd 33 m hv) := hwW.row rhd.out (fun h => h)
  have hclos : Hid (∀ w', Chg (fun b => b = g) W.drew w' → ∀ t, t < n → Calls Yba.prog 22 #[.int .i64 ((fun t => (X t : Int)) t), .pointer (some ⟨w.heap.size, 0, none⟩), .pointer (some ⟨w.heap.size + 1 + 1, 0, none⟩), .pointer (some ⟨w.heap.size + 1, 0, none⟩)] w' fun e w'' => e = .returned (.bool ((fun x : Int => hd (x.toNat * m + j) != x) ((fun t => (X t : Int)) t))) ∧ ∃ n, w'' = w'.drewN n) := by
    intro w' hc t ht
    have hlt := hX.out t ht
    have z : ∀ p : Addr, p.block < w.heap.size + 1 + 1 + 1 → p.block ≠ g → w'.cell? p = W.cell? p := fun p a b => hc.cell (w := W.drew) (by show p.block < W.heap.size; rw [s1]; exact a) b
    exact clos_any bs w.heap.size (w.heap.size + 1) (w.heap.size + 1 + 1) bh (X t) m k j (hd (X t * m + j)) w' hlt hj hk hm
      (by rw [z _ (by dsimp only; omega) (by dsimp only; omega)]; exact d1) (by rw [z _ (by dsimp only; omega) (by dsimp only; omega)]; exact d3) (by rw [z _ (by dsimp only; omega) (by dsimp only; omega)]; exact d2)
      (by rw [z _ (by dsimp only; omega) (by dsimp only; omega)]; exact e3) (by rw [z _ (by dsimp only; omega) (by dsimp only; omega)]; exact e4) (by rw [z _ (by dsimp only; omega) (by dsimp only; omega)]; exact rhW.cell (idx_lt hlt hj))
  have hcall := (show Hid _ from deleteFunc_any g n cap (fun t => (X t : Int)) (fun x => hd (x.toNat * m + j) != x) _ _ _ W.drew hn hncap F0 rgW hF0.out hclos)
  have haux : Hid (∀ w1, Chg (fun b => b = g) W.drew w1 → w1.cell? ⟨w.heap.size, 0, none⟩ = some (.pointer (some ⟨bs, 0, none⟩)) ∧ w1.cell? ⟨w.heap.size + 1, 0, none⟩ = some (.int .i64 j) ∧ w1.cell? ⟨bs, 8, none⟩ = some (.slice (some ⟨bhd, 0, none⟩) m m) ∧ w1.cell? ⟨bhd, j, none⟩ = some (.slice (some ⟨g, 0, none⟩) n cap) ∧ w1.frozen? ⟨bhd, j, none⟩ = false) := by
    intro w1 hc
    have z : ∀ p : Addr, p.block < w.heap.size + 1 + 1 + 1 → p.block ≠ g → w1.cell? p = W.cell? p := fun p a b => hc.cell (w := W.drew) (by show p.block < W.heap.size; rw [s1]; exact a) b
    have z' : ∀ p : Addr, p.block < w.heap.size + 1 + 1 + 1 → p.block ≠ g → w1.frozen? p = W.frozen? p := fun p a b => hc.frozen (w := W.drew) (by show p.block < W.heap.size; rw [s1]; exact a) b
    refine ⟨?_, ?_, ?_, ?_, ?_⟩
    · rw [z _ (by dsimp only; omega) (by dsimp only; omega)]; exact d1
    · rw [z _ (by dsimp only; omega) (by dsimp only; omega)]; exact d2
    · rw [z _ (by dsimp only; omega) (by dsimp only; omega)]; exact e1
    · rw [z _ (by dsimp only; omega) (by dsimp only; omega)]; exact e2
    · rw [z' _ (by dsimp only; omega) (by dsimp only; omega)]; exact f2
  have HW1 : Hid (W = _) := hW
  clear hclos rhW rgW hwW c2 c7 c8 c9 hW
  go_enter Yba.func14, Yba.ntmps14
  go_wp2_with fail
  rw [← HW1.out]
  clear c0 c1
  refine wp_region_held_drew (S := fun w' => w'.cell? ⟨w.heap.size, 0, none⟩ = some (.pointer (some ⟨bs, 0, none⟩)) ∧ w'.cell? ⟨w.heap.size + 1, 0, none⟩ = some (.int .i64 j) ∧ w'.cell? ⟨bs, 8, none⟩ = some (.slice (some ⟨bhd, 0, none⟩) m m)) (by kernel_rfl) ⟨d1, d2, e1⟩ (fun hH => ?_)
  refine wpAnyH_take (i := 0) (v := .pointer (some ⟨bs, 0, none⟩)) rfl (by kernel_rfl) (by kernel_rfl) (by kernel_rfl) (fun _ _ _ h => h) (Or.inl ⟨by rfl, ?_⟩) hH ?_
  · intro w hSw; (try dsimp only at hSw); go_simp
  simp only [Act.put, List.setIfInBounds_toArray, List.set_cons_zero, List.set_cons_succ]
  refine wpAnyH_take (i := 1) (v := .pointer (some ⟨bs, 0, none⟩)) rfl (by kernel_rfl) (by kernel_rfl) (by kernel_rfl) (fun _ _ _ h => h) (Or.inl ⟨by rfl, ?_⟩) hH ?_
  · intro w hSw; (try dsimp only at hSw); go_simp
  simp only [Act.put, List.setIfInBounds_toArray, List.set_cons_zero, List.set_cons_succ]
  refine wpAnyH_take (i := 2) (v := .pointer (some ⟨bs, 8, none⟩)) rfl (by kernel_rfl) (by kernel_rfl) (by kernel_rfl) (fun _ _ _ h => h) (Or.inl ⟨by rfl, ?_⟩) hH ?_
  · intro w hSw; (try dsimp only at hSw); go_simp
  simp only [Act.put, List.setIfInBounds_toArray, List.set_cons_zero, List.set_cons_succ]
  refine wpAnyH_take (i := 3) (v := .slice (some ⟨bhd, 0, none⟩) m m) rfl (by kernel_rfl) (by kernel_rfl) (by kernel_rfl) (fun _ _ _ h => h) (Or.inl ⟨by rfl, ?_⟩) hH ?_
  · intro w hSw; (try dsimp only at hSw); go_simp
  simp only [Act.put, List.setIfInBounds_toArray, List.set_cons_zero, List.set_cons_succ]
  refine wpAnyH_take (i := 4) (v := .int .i64 j) rfl (by kernel_rfl) (by kernel_rfl) (by kernel_rfl) (fun _ _ _ h => h) (Or.inl ⟨by rfl, ?_⟩) hH ?_
  · intro w hSw; (try dsimp only at hSw); go_simp
  simp only [Act.put, List.setIfInBounds_toArray, List.set_cons_zero, List.set_cons_succ]
  refine wpAnyH_take (i := 5) (v := .pointer (some ⟨bs, 0, none⟩)) rfl (by kernel_rfl) (by kernel_rfl) (by kernel_rfl) (fun _ _ _ h => h) (Or.inl ⟨by rfl, ?_⟩) hH ?_
  · intro w hSw; (try dsimp only at hSw); go_simp
  simp only [Act.put, List.setIfInBounds_toArray, List.set_cons_zero, List.set_cons_succ]
  refine wpAnyH_take (i := 6) (v := .pointer (some ⟨bs, 0, none⟩)) rfl (by kernel_rfl) (by kernel_rfl) (by kernel_rfl) (fun _ _ _ h => h) (Or.inl ⟨by rfl, ?_⟩) hH ?_
  · intro w hSw; (try dsimp only at hSw); go_simp
  simp only [Act.put, List.setIfInBounds_toArray, List.set_cons_zero, List.set_cons_succ]
  refine wpAnyH_take (i := 7) (v := .pointer (some ⟨bs, 8, none⟩)) rfl (by kernel_rfl) (by kernel_rfl) (by kernel_rfl) (fun _ _ _ h => h) (Or.inl ⟨by rfl, ?_⟩) hH ?_
  · intro w hSw; (try dsimp only at hSw); go_simp
  simp only [Act.put, List.setIfInBounds_toArray, List.set_cons_zero, List.set_cons_succ]
  refine wpAnyH_take (i := 8) (v := .slice (some ⟨bhd, 0, none⟩) m m) rfl (by kernel_rfl) (by kernel_rfl) (by kernel_rfl) (fun _ _ _ h => h) (Or.inl ⟨by rfl, ?_⟩) hH ?_
  · intro w hSw; (try dsimp only at hSw); go_simp
  simp only [Act.put, List.setIfInBounds_toArray, List.set_cons_zero, List.set_cons_succ]
  refine wpAnyH_take (i := 9) (v := .int .i64 j) rfl (by kernel_rfl) (by kernel_rfl) (by kernel_rfl) (fun _ _ _ h => h) (Or.inl ⟨by rfl, ?_⟩) hH ?_
  · intro w hSw; (try dsimp only at hSw); go_simp
  simp only [Act.put, List.setIfInBounds_toArray, List.set_cons_zero, List.set_cons_succ]
  refine wpAnyH_take (i := 10) (v := .pointer (some ⟨bhd, j, none⟩)) rfl (by kernel_rfl) (by kernel_rfl) (by kernel_rfl) (fun _ _ _ h => h) (Or.inl ⟨by rfl, ?_⟩) hH ?_
  · intro w hSw; (try dsimp only at hSw); go_simp
  simp only [Act.put, List.setIfInBounds_toArray, List.set_cons_zero, List.set_cons_succ]
  refine wpAnyH_take (i := 12) (v := .func (.func 22) #[] #[.pointer (some ⟨w.heap.size, 0, none⟩), .pointer (some ⟨w.heap.size + 1 + 1, 0, none⟩), .pointer (some ⟨w.heap.size + 1, 0, none⟩)]) rfl (by kernel_rfl) (by kernel_rfl) (by kernel_rfl) (fun _ _ _ h => h) (Or.inl ⟨by rfl, ?_⟩) hH ?_
  · intro w hSw; (try dsimp only at hSw); go_simp
  simp only [Act.put, List.setIfInBounds_toArray, List.set_cons_zero, List.set_cons_succ]
  refine wpAnyH_ready (rs := [11]) (by kernel_rfl) (by simp) ?_
  refine AllReadyH.cons rfl (fun K hK => ?_) AllReadyH.nil
  go_simp
  refine hK.out _ _ hH (fun hH => ?_)
  clear hK
  refine wpAnyH_ready (rs := [13]) (by kernel_rfl) (by simp) ?_
  refine AllReadyH.cons rfl (fun K hK => ?_) AllReadyH.nil
  go_simp
  refine Calls.mono hcall.out ?_
  rintro e w1 ⟨rfl, hchg, F, hrow, hF⟩
  obtain ⟨z1, z2, z3, z4, z5⟩ := haux.out w1 hchg
  dsimp only
  refine hK.out _ _ ⟨z1, z2, z3⟩ (fun hH => ?_)
  clear hK K
  refine wpAnyH_take (i := 14) (v := .pointer (some ⟨bhd, j, none⟩)) rfl (by kernel_rfl) (by kernel_rfl) (by kernel_rfl) (fun _ _ _ h => h) (Or.inl ⟨by rfl, ?_⟩) hH ?_
  · intro w hSw; (try dsimp only at hSw); go_simp
  simp only [Act.put, List.setIfInBounds_toArray, List.set_cons_zero, List.set_cons_succ]
  refine wpAnyH_ready (rs := [15]) (by kernel_rfl) (by simp) ?_
  refine AllReadyH.cons rfl (fun K hK => ?_) AllReadyH.nil
  go_simp
  refine hK.out _ _ ⟨?_, ?_, ?_⟩ (fun hH => ?_)
  · rw [World.cell?_setCell_far _ _ _ _ (by dsimp only; omega)]; exact z1
  · rw [World.cell?_setCell_far _ _ _ _ (by dsimp only; omega)]; exact z2
  · rw [World.cell?_setCell_far _ _ _ _ (by dsimp only; omega)]; exact z3
  clear hK K
  refine wpAnyH_done (by kernel_rfl) ?_ _
  obtain ⟨y1, y2, y3⟩ := hH
  have y4 := World.cell?_setCell_same (w := w1) (a := ⟨bhd, j, none⟩) (v := .slice (some ⟨g, 0, none⟩) (kept (fun x => hd (x.toNat * m + j) != x) (fun t => (X t : Int)) n).length cap) z4
  go_wp2_with fail
  go_quiet (fail)
  go_wp2
  go_ret
  refine ⟨_, _, rfl, ?_, (World.rowIs.set (hchg.row (w := W.drew) rhdW.out (by omega)) j _), rfl, F, hrow.setOther (by dsimp only; omega) _, hF⟩
  have h1 : Chg (fun b => b = g ∨ b = bhd) w w1 := (HW.out.mono (fun _ h => h.elim)).trans ((Chg.refl _ W).drew.trans (hchg.mono (fun b h => .inl h)))
  exact (h1.setCell (fun _ => .inr rfl) _).drewN _
end Go.Proofs.Ybulkcqyu
