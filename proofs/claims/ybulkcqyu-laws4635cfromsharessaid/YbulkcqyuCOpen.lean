/-
  The steps, as the walks want them, out of the slice that is handed in.
-/
import Derived.Test.YbulkcqyuRows
import Derived.ProofKit
import Derived.OpenShut
import Derived.ShutString
import Derived.ChangeOld
import Derived.Deep.SlicePairs
import Derived.Deep.Strs
namespace Go.Proofs.Ybulkcqyu
open Go.ChangeShapes Go.WideShapes Go.ChangeAt Go.RowKit Go.Deep
set_option linter.unusedVariables false
set_option linter.unusedSimpArgs false

/-- What a walk is told of the steps. -/
def IsSteps (w : World) (sb so len : Nat) (Ch : Nat → Nat) (Pl : Nat → Int) (Fx : Nat → Bool) : Prop :=
  ∀ i, i < len → w.cell? ⟨sb, so + i * 3, none⟩ = some (.int .u8 (Ch i)) ∧ w.cell? ⟨sb, so + i * 3 + 1, none⟩ = some (.int .i32 (Pl i)) ∧ w.cell? ⟨sb, so + i * 3 + 1 + 1, none⟩ = some (.bool (Fx i)) ∧ Ch i ≤ 255 ∧ -2147483648 ≤ Pl i ∧ Pl i ≤ 2147483647

theorem open_steps {H : Type} {enc : TypeId × Value → H} {W : World} {fuel : Nat} {a : Option Addr} {len cap : Nat} {x : DataW H × List MemPlace}
    (h : DataW.trod enc Yba.prog W 0 (fun _ => true) true fuel 45 [.slice a len cap] = some x) :
    (a = none ∧ len = 0 ∧ cap = 0) ∨ ∃ ad : Addr, a = some ad ∧ len ≤ cap ∧ cap ≤ maxLen ∧ (len = 0 ∨ ∃ sb so Ch Pl Fx, ad = ⟨sb, so, none⟩ ∧ IsSteps W sb so len Ch Pl Fx) := by
  rcases open_slice Yba.underlying45 h with ⟨hcs, _⟩ | ⟨ad, l, c, m, n, D, Pl, hcs, hb, hl, hm, hmm, _, hx⟩
  · simp at hcs
    exact .inl hcs
  · simp at hcs
    obtain ⟨rfl, rfl, rfl⟩ := hcs
    refine .inr ⟨ad, rfl, hl, hm, ?_⟩
    rcases Nat.eq_zero_or_pos len with h0 | h0
    · exact .inl h0
    · right
      simp only [if_true] at hmm
      subst hmm
      have ce : Yba.prog.cellsOf 70 = 3 := by kernel_rfl
      have c5 : Yba.prog.cellsOf 5 = 1 := by kernel_rfl
      have c21 : Yba.prog.cellsOf 21 = 1 := by kernel_rfl
      have c4 : Yba.prog.cellsOf 4 = 1 := by kernel_rfl
      have each : ∀ i, i < len → ∃ q : Nat × Int × Bool, W.cell? (ad.add (i * 3)) = some (.int .u8 q.1) ∧ W.cell? (ad.add (i * 3 + 1)) = some (.int .i32 q.2.1) ∧ W.cell? (ad.add (i * 3 + 2)) = some (.bool q.2.2) ∧ q.1 ≤ 255 ∧ -2147483648 ≤ q.2.1 ∧ q.2.1 ≤ 2147483647 := by
        intro i hi
        obtain ⟨cs', h1, h2⟩ := hx i (by omega)
        rw [ce] at h1
        obtain ⟨_, hlen, hcell⟩ := World.cells?_some h1
        obtain ⟨y0, y1, y2, n', _, _, g0, g1, g2⟩ := trod_struct3 Yba.underlying70 h2
        match cs', hlen with
        | [v0, v1, v2], _ =>
          have e0 := hcell 0 (by omega)
          have e1 := hcell 1 (by omega)
          have e2 := hcell 2 (by omega)
          rw [add_add] at e0 e1 e2
          simp [c5, c21, c4] at g0 g1 g2
          obtain ⟨b0, r0, _, w0⟩ := DataW.trod_int Yba.underlying5 g0
          obtain ⟨b1, r1, _, w1⟩ := DataW.trod_int Yba.underlying21 g1
          obtain ⟨b2, r2, _⟩ := DataW.trod_bool Yba.underlying4 g2
          simp at r0 r1 r2
          have u0 := bounds_u8 w0
          have u1 := bounds_i32 w1
          refine ⟨(b0.toNat, b1, b2), ?_, ?_, ?_, ?_, ?_, ?_⟩
          · rw [show ((b0.toNat : Nat) : Int) = b0 by omega, ← r0]; simpa using e0
          · rw [← r1]; simpa using e1
          · rw [← r2]; simpa using e2
          · show b0.toNat ≤ 255; omega
          · show -2147483648 ≤ b1; omega
          · show b1 ≤ 2147483647; omega
      obtain ⟨q, hq⟩ := choose_lt each
      obtain ⟨sb, so, spot⟩ := ad
      have c0 := (hq 0 h0).1
      have hspot : spot = none := by simpa [Addr.add] using World.cell?_spot c0
      subst hspot
      refine ⟨sb, so, fun i => (q i).1, fun i => (q i).2.1, fun i => (q i).2.2, rfl, fun i hi => ?_⟩
      obtain ⟨z0, z1, z2, z3⟩ := hq i hi
      rw [add_plain] at z0 z1 z2
      exact ⟨z0, by rw [← z1]; rfl, by rw [← z2]; rfl, z3⟩
end Go.Proofs.Ybulkcqyu
