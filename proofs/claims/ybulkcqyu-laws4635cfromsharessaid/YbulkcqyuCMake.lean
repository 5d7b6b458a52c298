/-
  clockStore.make (15), own (26), walked.
-/
import Derived.Test.YbulkcqyuCAdd
namespace Go.Proofs.Ybulkcqyu
set_option linter.unusedVariables false
set_option linter.unusedSimpArgs false
open Go.RowKit Go.Deep

theorem Str.drew {w : World} {base b N fx : Nat} {nd : Nat → Nat → Nat} {Fp : Nat → Prop} (h : Str w base b N fx nd Fp) : Str w.drew base b N fx nd Fp := h.grow ((Chg.refl _ _).drew)
theorem Str.drewN {w : World} {base b N fx : Nat} {nd : Nat → Nat → Nat} {Fp : Nat → Prop} (h : Str w base b N fx nd Fp) (n : Nat) : Str (w.drewN n) base b N fx nd Fp := h.grow ((Chg.refl _ _).drewN n)

/-- What add leaves. -/
def AddPost (w w' : World) (base b N fx : Nat) (nd : Nat → Nat → Nat) (Fp : Nat → Prop) (v0 v1 v2 v3 : Nat) : Prop :=
  ∃ nd' Fp', Str w' base b (N + 1) fx nd' Fp' ∧ Step w w' Fp Fp' ∧ (∀ i, i < N → ∀ j, nd' i j = nd i j) ∧ nd' N 0 = v0 ∧ nd' N 1 = v1 ∧ nd' N 2 = v2 ∧ nd' N 3 = v3

set_option maxHeartbeats 400000 in
theorem make_any {base b N fx : Nat} {nd : Nat → Nat → Nat} {Fp : Nat → Prop} (v0 v1 v2 v3 : Nat) (w : World) (h : Hid (Str w base b N fx nd Fp)) (hN : N ≤ 400000) :
    Calls Yba.prog 15 #[.pointer (some ⟨b, 0, none⟩), .agg #[.int .u32 v0, .int .u32 v1, .int .u32 v2, .int .u32 v3]] w fun e w' => e = .returned (.int .u32 N) ∧ AddPost w w' base b N fx nd Fp v0 v1 v2 v3 := by
  obtain ⟨W, hW⟩ : ∃ W, W = w.alloc (.cells #[.int .u32 v0, .int .u32 v1, .int .u32 v2, .int .u32 v3] 68) := ⟨_, rfl⟩
  have hcW : Chg (fun _ => False) w W := by rw [hW]; exact (Chg.refl _ _).alloc _
  have szW : W.heap.size = w.heap.size + 1 := by rw [hW]; simp
  have d0 : W.cell? ⟨w.heap.size, 0, none⟩ = some (.int .u32 v0) := by rw [hW]; simp [go_sem]
  have d1 : W.cell? ⟨w.heap.size, 1, none⟩ = some (.int .u32 v1) := by rw [hW]; simp [go_sem]
  have d2 : W.cell? ⟨w.heap.size, 2, none⟩ = some (.int .u32 v2) := by rw [hW]; simp [go_sem]
  have d3 : W.cell? ⟨w.heap.size, 3, none⟩ = some (.int .u32 v3) := by rw [hW]; simp [go_sem]
  have hcall : Hid (Calls Yba.prog 23 #[.pointer (some ⟨b, 0, none⟩), .agg #[.int .u32 v0, .int .u32 v1, .int .u32 v2, .int .u32 v3]] W.drew fun e w' => e = .returned (.int .u32 N) ∧ AddPost w w' base b N fx nd Fp v0 v1 v2 v3 ∧ w'.cell? ⟨w.heap.size, 0, none⟩ = some (.int .u32 v0) ∧ w'.cell? ⟨w.heap.size, 1, none⟩ = some (.int .u32 v1) ∧ w'.cell? ⟨w.heap.size, 2, none⟩ = some (.int .u32 v2) ∧ w'.cell? ⟨w.heap.size, 3, none⟩ = some (.int .u32 v3)) := by
    refine (add_any v0 v1 v2 v3 W.drew (h.out.grow (hcW.drew)) hN).mono ?_
    rintro e w' ⟨he, nd', Fp', h1, h2, h3⟩
    have hf : ¬ Fp w.heap.size := fun hf => by have := h.out.lt hf; omega
    have z : ∀ o, w'.cell? ⟨w.heap.size, o, none⟩ = W.cell? ⟨w.heap.size, o, none⟩ := fun o => h2.1.cell (w := W.drew) (by show w.heap.size < W.heap.size; omega) hf
    exact ⟨he, ⟨nd', Fp', h1, h2.after hcW.drew, h3⟩, by rw [z]; exact d0, by rw [z]; exact d1, by rw [z]; exact d2, by rw [z]; exact d3⟩
  have HW : Hid (W = w.alloc (.cells #[.int .u32 v0, .int .u32 v1, .int .u32 v2, .int .u32 v3] 68)) := hW
  clear hW hcW
  go_enter Yba.func15, Yba.ntmps15
  go_wp2_with fail
  rw [← HW.out]
  go_region_held3 (fun w' => w'.cell? ⟨w.heap.size, 0, none⟩ = some (.int .u32 v0) ∧ w'.cell? ⟨w.heap.size, 1, none⟩ = some (.int .u32 v1) ∧ w'.cell? ⟨w.heap.size, 2, none⟩ = some (.int .u32 v2) ∧ w'.cell? ⟨w.heap.size, 3, none⟩ = some (.int .u32 v3)) (go_keep) ((go_at_call 23; refine Calls.mono hcall.out ?_; rintro e w' ⟨rfl, hpost, z0, z1, z2, z3⟩))
  have HP : Hid (AddPost w w' base b N fx nd Fp v0 v1 v2 v3) := hpost
  clear hpost
  go_wp2_with fail
  go_ret
  exact ⟨rfl, HP.out⟩

set_option maxHeartbeats 400000 in
theorem own_new {base b N fx : Nat} {nd : Nat → Nat → Nat} {Fp : Nat → Prop} (n : Nat) (w : World) (h : Hid (Str w base b N fx nd Fp)) (hn : fx ≤ n) :
    Calls Yba.prog 26 #[.pointer (some ⟨b, 0, none⟩), .int .u32 n] w fun e w' => e = .returned (.int .u32 n) ∧ w' = w := by
  have c2 : w.cell? ⟨b, 2, none⟩ = some (.int .u32 fx) := by
    obtain ⟨lv, ll, cb, hs, _⟩ := h.out
    have := hs.rb.cell (i := 2) (by omega)
    simpa using this
  have hd : decide ((fx : Int) ≤ (n : Int)) = true := by simp; omega
  go_enter Yba.func26, Yba.ntmps26
  go_wp2_with fail
  go_ret
  exact ⟨rfl, rfl⟩

set_option maxHeartbeats 400000 in
theorem own_old {base b N fx : Nat} {nd : Nat → Nat → Nat} {Fp : Nat → Prop} (n : Nat) (w : World) (h : Hid (Str w base b N fx nd Fp)) (hn : n < fx) (hnN : n < N) (hN : N ≤ 400000) :
    Calls Yba.prog 26 #[.pointer (some ⟨b, 0, none⟩), .int .u32 n] w fun e w' => e = .returned (.int .u32 N) ∧ AddPost w w' base b N fx nd Fp (nd n 0) (nd n 1) (nd n 2) (nd n 3) := by
  obtain ⟨lv, ll, cb, hs, _, _, hll⟩ := h.out
  have c2 : w.cell? ⟨b, 2, none⟩ = some (.int .u32 fx) := by
    have := hs.rb.cell (i := 2) (by omega)
    simpa using this
  have hnl : n < ll * 4096 := by have := hs.room; omega
  have hd : decide ((fx : Int) ≤ (n : Int)) = false := by simp; omega
  have hnode := (show Hid _ from node_any n w hs hnl (by omega))
  have g0 : w.cell? ⟨cb (n / 4096), n % 4096 * 4, none⟩ = some (.int .u32 ((nd n 0 : Nat) : Int)) := hs.node hnl (j := 0) (by omega)
  have g1 := hs.node hnl (j := 1) (by omega)
  have g2 := hs.node hnl (j := 2) (by omega)
  have g3 := hs.node hnl (j := 3) (by omega)
  have g2' : w.cell? ⟨cb (n / 4096), n % 4096 * 4 + 1 + 1, none⟩ = _ := g2
  have g3' : w.cell? ⟨cb (n / 4096), n % 4096 * 4 + 1 + 1 + 1, none⟩ = _ := g3
  generalize cb (n / 4096) = cbk at *
  generalize n % 4096 * 4 = off at *
  have hm := (show Hid _ from make_any (nd n 0) (nd n 1) (nd n 2) (nd n 3) w h hN)
  clear hs
  go_enter Yba.func26, Yba.ntmps26
  go_wp2_with fail
  refine Calls.mono hnode.out ?_
  rintro e w' ⟨rfl, rfl⟩
  go_wp2_with fail
  refine Calls.mono hm.out ?_
  rintro e w' ⟨rfl, hpost⟩
  have HP : Hid (AddPost _ w' base b N fx nd Fp (nd n 0) (nd n 1) (nd n 2) (nd n 3)) := hpost
  clear hpost
  go_wp2_with fail
  go_ret
  exact ⟨rfl, HP.out⟩
end Go.Proofs.Ybulkcqyu
