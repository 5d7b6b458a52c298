/-
  LawS4638BSplice (6), walked.
-/
import Derived.Test.YbulkcrakHead
import Derived.Test.YbulkcrakBuild
namespace Go.Proofs.Ybulkcrak
set_option linter.unusedVariables false
set_option linter.unusedSimpArgs false
open Go.RowKit Go.Deep

/-- head, value and the blanks behind -/
structure Parts (c h v : ByteArray) (p q : Nat) : Prop where
  pq : p ≤ q
  qn : q ≤ c.size
  h : h = c.extract 0 p
  v : v = c.extract p q
  rest : ∀ k, q ≤ k → k < c.size → bl (bt c k) = true
  all : p = q → q = c.size

theorem parts_of {c h v : ByteArray} (hh : HeadOk c h) (hv : ReadOk c v) : ∃ p q, Parts c h v p q := by
  rcases hh with ⟨i, e, p, q, hV, rfl⟩ | ⟨hno, rfl⟩
  · rcases hv with ⟨i', e', p', q', hV', rfl⟩ | ⟨hno, _⟩
    · obtain ⟨rfl, rfl, rfl, rfl⟩ := hV.unique hV'
      have := hV.pq
      exact ⟨p, q, by omega, hV.qn, rfl, rfl, hV.rest, by omega⟩
    · exact absurd hV (hno _ _ _ _)
  · rcases hv with ⟨i', e', p', q', hV', _⟩ | ⟨_, hz⟩
    · exact absurd hV' (hno _ _ _ _)
    · refine ⟨h.size, h.size, Nat.le_refl _, Nat.le_refl _, (ext_all h).symm, ?_, fun k h1 h2 => by omega, fun _ => rfl⟩
      apply ByteArray.ext
      apply Array.ext
      · show v.size = (h.extract h.size h.size).size
        simp [hz]
      · intro i h1 h2
        have : i < v.size := h1
        omega

set_option maxHeartbeats 400000 in
theorem splice_any (sa : Option Addr) (sb so len cap : Nat) (Z : Nat → Int) (hlen : len ≤ 1024) (hlc : len ≤ cap) (w : World) (hst : Hid (∀ i, i < len → sa = some ⟨sb, so, none⟩ ∧ w.cell? ⟨sb, so + i, none⟩ = some (.int .u8 (Z i)) ∧ 0 ≤ Z i ∧ Z i ≤ 255)) :
    Calls Yba.prog 6 #[.slice sa len cap] w fun e w' => e = .returned (.bool true) ∧ Below w.heap.size w w' := by
  have hd : decide ((1024 : Int) < (len : Int)) = false := by simp; omega
  have hbu := (show Hid _ from build_any sa sb so len cap Z hlen hlc w hst)
  go_enter Yba.func6, Yba.ntmps6
  go_wp2_with fail
  refine Calls.mono hbu.out ?_
  rintro e W1 ⟨raw, rfl, hraw, hc1⟩
  have HC1 : Hid (Chg (fun x => w.heap.size ≤ x) w W1) := hc1
  clear hc1 hbu hst
  go_wp2_with fail
  refine Calls.mono (readLine_any raw (by omega) W1) ?_
  rintro e W2 ⟨ki, nm, v, re, inh, pa, rfl, hc2, hok⟩
  have HC2 : Hid (Chg (fun x => w.heap.size ≤ x) w W2) := HC1.out.andThen hc2 (fun b hb hlt => by have := HC1.out.size; omega)
  have HOK : Hid (ReadOk (raw.extract 0 (cut raw)) v) := hok
  clear hc2 hok HC1
  go_wp2_with fail
  obtain ⟨W2', hW2⟩ : ∃ W2', W2' = W2.alloc (.cells #[.string ki, .string nm, .string v, .string re, .bool inh, .string pa] 33) := ⟨_, rfl⟩
  have R2 : Hid (W2'.rowIs W2.heap.size 33 6 (lrow ki nm v re inh pa)) := by rw [hW2]; exact line_new W2 _ _ _ _ _ _
  have HC2' : Hid (Chg (fun x => w.heap.size ≤ x) w W2') := by rw [hW2]; exact HC2.out.alloc _
  rw [← hW2]
  clear hW2 HC2
  refine Calls.mono (head_any raw ki nm v re inh pa (by omega) W2' HOK) ?_
  rintro e W3 ⟨h, rfl, hhd, hc3⟩
  have R3 : Hid (W3.rowIs W2.heap.size 33 6 (lrow ki nm v re inh pa)) := hc3.row R2.out (by have := R2.out.lt; omega)
  have HC3 : Hid (Chg (fun x => w.heap.size ≤ x) w W3) := HC2'.out.andThen hc3 (fun b hb hlt => by have := HC2'.out.size; omega)
  have d2 := R3.out.cell (i := 2) (by omega)
  simp [lrow] at d2
  obtain ⟨cc, hcc⟩ : ∃ cc, cc = raw.extract 0 (cut raw) := ⟨_, rfl⟩
  have hcont := (show Hid _ from content_any raw (by omega) W3)
  have hcz : cc.size ≤ 1024 := by rw [hcc]; simp; have := cut_le raw; omega
  rw [← hcc] at hcont
  obtain ⟨p, q, hP⟩ := parts_of (hcc ▸ hhd) (hcc ▸ HOK.out)
  have hhs : h.size = p := by rw [hP.h]; have := hP.pq; have := hP.qn; simp; omega
  have hvs : q = p + v.size := by rw [hP.v]; have := hP.pq; have := hP.qn; simp; omega
  subst hvs
  have hq := hP.qn
  have HP : Hid (Parts cc h v p (p + v.size)) := hP
  clear hP hhd hcc HOK R2 HC2' hc3
  go_wp2_with fail
  refine Calls.mono hcont.out ?_
  rintro e W4 ⟨rfl, hw4⟩
  rw [hw4]
  clear hw4 hcont
  have hg1 : decide ((cc.size : Int) < (p : Int) + (v.size : Int)) = false := by simp; omega
  have hp : p ≤ cc.size := by omega
  have e1 : ((cc.extract 0 p).toList == h.toList) = true := by rw [← HP.out.h]; exact beq_self_eq_true _
  have e2 : ((cc.extract p (p + v.size)).toList == v.toList) = true := by rw [← HP.out.v]; exact beq_self_eq_true _
  have hsl : ∀ wx, (Instr.slice 9 (.string cc) (some (.int .i64 (p : Int))) (some (.int .i64 ((p : Int) + (v.size : Int)))) none).run Yba.prog wx = .ok (.string (cc.extract p (p + v.size))) wx := fun wx => by
    have := run_slice_string (P := Yba.prog) wx 9 cc .i64 .i64 (p : Int) ((p : Int) + (v.size : Int)) Yba.underlying9 (by omega) (by omega) (by omega)
    rw [this]
    congr 3
  go_wp2_with fail
  go_quiet (fail)
  go_wp2_with fail
  obtain ⟨tt, htt⟩ : ∃ tt, tt = cc.extract (p + v.size) cc.size := ⟨_, rfl⟩
  have hts : tt.size + (p + v.size) = cc.size := by rw [htt]; simp; omega
  have HTB : Hid (∀ k, k < tt.size → bl (bt tt k) = true) := fun k hk => by
    rw [htt, bt_ext cc _ _ k (Nat.le_refl _) (by omega)]
    exact HP.out.rest _ (by omega) (by omega)
  rw [← htt]
  have HTT : Hid (v.size = 0 → tt.size = 0) := fun hz => by have := HP.out.all (by omega); omega
  clear htt hsl e1 e2
  go_loopw [8] (fun x wr => ∃ k : Nat, k ≤ tt.size ∧ x = .int .i64 k ∧ wr = W3.drewN nq) (fun x _ => tt.size - (iOf x).toNat)
  case atStart => exact ⟨0, by omega, rfl, rfl⟩
  case round =>
    obtain ⟨k, hk, rfl, rfl⟩ := hrel
    rcases (by omega : k < tt.size ∨ k = tt.size) with h1 | h1
    · have hd1 : decide ((k : Int) < (tt.size : Int)) = true := by simp; omega
      have hb := bt_eq tt k h1
      have hcl := (show Hid _ from bblank_any (bt tt k) (W3.drewN nq))
      rw [HTB.out k h1] at hcl
      go_wp2_with fail
      refine Calls.mono hcl.out ?_
      rintro e w' ⟨rfl, hw'⟩
      rw [hw']
      clear hw'
      go_wp2_with fail
      exact ⟨⟨k + 1, by omega, by rw [show ((k + 1 : Nat) : Int) = (k : Int) + 1 by omega], trivial⟩, by simp only [iOf]; omega⟩
    · have hd1 : decide ((k : Int) < (tt.size : Int)) = false := by simp; omega
      clear hk
      by_cases hz : v.size = 0
      · have hz' := HTT.out hz
        have hd2 : ((v.size : Int) == 0) = true := by rw [hz]; rfl
        have hd3 : ((tt.size : Int) == 0) = true := by rw [hz']; rfl
        go_wp2_with fail
        go_ret
        exact ⟨rfl, (HC3.out.drewN nq).below (Nat.le_refl _) (fun b hb => by omega)⟩
      · have hd2 : ((v.size : Int) == 0) = false := beq_eq_false_iff_ne.2 (by omega)
        go_wp2_with fail
        go_ret
        exact ⟨rfl, (HC3.out.drewN nq).below (Nat.le_refl _) (fun b hb => by omega)⟩
end Go.Proofs.Ybulkcrak
