/-
  Slices of bytes and their parts; trimLeft (26), indexByte (28), content (22) over []byte, walked.
-/
import Derived.Test.YbulkcrakTrim
import Derived.Test.YbulkcrakVal
namespace Go.Proofs.Ybulkcrak
set_option linter.unusedVariables false
set_option linter.unusedSimpArgs false
open Go.RowKit Go.Deep

/-- a slice of n bytes F in memory -/
def SL (w : World) (sa : Option Addr) (B n cap : Nat) (F : Nat → Int) : Prop := n ≤ cap ∧ (n = 0 ∨ ∃ o, sa = some ⟨B, o, none⟩ ∧ ∀ i, i < n → w.cell? ⟨B, o + i, none⟩ = some (.int .u8 (F i)))
/-- where 's[l:]' begins -/
def subA (a : Option Addr) (l m : Nat) : Option Addr := if m = l then a else a.map (·.add l)

theorem SL.form {w : World} {sa : Option Addr} {B n cap : Nat} {F : Nat → Int} (h : SL w sa B n cap F) : ∃ o, ∀ i, i < n → sa = some ⟨B, o, none⟩ ∧ w.cell? ⟨B, o + i, none⟩ = some (.int .u8 (F i)) := by
  rcases h.2 with h0 | ⟨o, hs, hc⟩
  · exact ⟨0, fun i hi => by omega⟩
  · exact ⟨o, fun i hi => ⟨hs, hc i hi⟩⟩
theorem SL.take {w : World} {sa : Option Addr} {B n cap : Nat} {F : Nat → Int} (h : SL w sa B n cap F) (k : Nat) (hk : k ≤ n) : SL w sa B k cap F := by
  refine ⟨Nat.le_trans hk h.1, ?_⟩
  rcases h.2 with h0 | ⟨o, hs, hc⟩
  · exact .inl (by omega)
  · exact .inr ⟨o, hs, fun i hi => hc i (by omega)⟩
theorem SL.from {w : World} {sa : Option Addr} {B n cap : Nat} {F : Nat → Int} (h : SL w sa B n cap F) (k : Nat) (hk : k ≤ n) : SL w (subA sa k cap) B (n - k) (cap - k) (fun i => F (k + i)) := by
  refine ⟨by have := h.1; omega, ?_⟩
  rcases h.2 with h0 | ⟨o, hs, hc⟩
  · exact .inl (by omega)
  · by_cases e : k = n
    · exact .inl (by omega)
    · refine .inr ⟨o + k, ?_, fun i hi => ?_⟩
      · unfold subA
        rw [if_neg (by have := h.1; omega), hs]
        show some ((⟨B, o, none⟩ : Addr).add k) = _
        congr 1
        unfold Addr.add; split <;> simp_all
      · rw [Nat.add_assoc]; exact hc (k + i) (by omega)
theorem SL.chg {S : Nat → Prop} {w w' : World} {sa : Option Addr} {B n cap : Nat} {F : Nat → Int} (h : SL w sa B n cap F) (hc : Chg S w w') (hB : B < w.heap.size) (hS : ¬ S B) : SL w' sa B n cap F := by
  refine ⟨h.1, ?_⟩
  rcases h.2 with h0 | ⟨o, hs, hcl⟩
  · exact .inl h0
  · exact .inr ⟨o, hs, fun i hi => by rw [hc.cell (p := ⟨B, o + i, none⟩) hB hS]; exact hcl i hi⟩
theorem SL.congr {w : World} {sa : Option Addr} {B n cap : Nat} {F G : Nat → Int} (h : SL w sa B n cap F) (hg : ∀ i, i < n → F i = G i) : SL w sa B n cap G := by
  refine ⟨h.1, ?_⟩
  rcases h.2 with h0 | ⟨o, hs, hcl⟩
  · exact .inl h0
  · exact .inr ⟨o, hs, fun i hi => by rw [← hg i hi]; exact hcl i hi⟩

theorem sl_l (w : World) (a : Option Addr) (len cap k : Nat) (hk : k ≤ len) : (Instr.slice 25 (.slice a len cap) (some (.int .i64 (k : Int))) none none).run Yba.prog w = .ok (.slice (subA a k cap) (len - k) (cap - k)) w := by
  rw [run_slice_l (P := Yba.prog) w 25 a len cap (by kernel_rfl) .i64 (k : Int) (by omega) (by omega)]
  have : (sizeOf (Yba.prog.elem 25)).run Yba.prog w = .ok 1 w := by rfl
  simp [this, Result.andThen, sliced, subA]
theorem sl_lh (w : World) (a : Option Addr) (len cap k h : Nat) (hk : k ≤ h) (hh : h ≤ cap) : (Instr.slice 25 (.slice a len cap) (some (.int .i64 (k : Int))) (some (.int .i64 (h : Int))) none).run Yba.prog w = .ok (.slice (subA a k cap) (h - k) (cap - k)) w := by
  rw [run_slice_lh (P := Yba.prog) w 25 a len cap (by kernel_rfl) .i64 .i64 (k : Int) (h : Int) (by omega) (by omega) (by omega)]
  have : (sizeOf (Yba.prog.elem 25)).run Yba.prog w = .ok 1 w := by rfl
  simp [this, Result.andThen, sliced, subA]

theorem trimB_sl (sa : Option Addr) (B n cap : Nat) (F : Nat → Int) (hn : n ≤ 1048576) (w : World) (h : Hid (SL w sa B n cap F)) :
    Calls Yba.prog 9 #[.slice sa n cap] w fun e w' => ∃ r, e = .returned (.slice sa r cap) ∧ TrimF F n r ∧ w' = w := by
  obtain ⟨o, ho⟩ := h.out.form
  exact trimB_any sa B o n cap F hn h.out.1 w ho

theorem trimLB_any (sa : Option Addr) (B n cap : Nat) (F : Nat → Int) (hn : n ≤ 1048576) (w : World) (h : Hid (SL w sa B n cap F)) :
    Calls Yba.prog 26 #[.slice sa n cap] w fun e w' => ∃ i sb, e = .returned (.slice sb (n - i) (cap - i)) ∧ TrimL F n i ∧ SL w sb B (n - i) (cap - i) (fun k => F (i + k)) ∧ w' = w := by
  have hnc := h.out.1
  obtain ⟨o, ho⟩ := h.out.form
  have HO : Hid (∀ i, i < n → sa = some ⟨B, o, none⟩ ∧ w.cell? ⟨B, o + i, none⟩ = some (.int .u8 (F i))) := ho
  clear ho
  go_enter Yba.func26, Yba.ntmps26
  go_wp2_with fail
  go_loopw [3] (fun x wr => ∃ i : Nat, i ≤ n ∧ x = .int .i64 i ∧ Hid (∀ k, k < i → bl (F k) = true) ∧ wr = w) (fun x _ => n - (iOf x).toNat)
  case atStart => exact ⟨0, by omega, rfl, fun k h => absurd h (by omega), rfl⟩
  case round =>
    obtain ⟨i, hi, rfl, hr, rfl⟩ := hrel
    by_cases h0 : i < n
    · have hd : decide ((i : Int) < (n : Int)) = true := by simp; omega
      have hc := (show Hid _ from isBlank_any (F i) wr)
      have hsl := fun wx => sl_l wx sa n cap i hi
      obtain ⟨hsa, hb⟩ := HO.out i h0
      cases hbl : bl (F i) with
      | true =>
        subst hsa
        rw [hbl] at hc
        have hR : Hid (∀ k, k < i + 1 → bl (F k) = true) := fun k h1 => by
          by_cases e : k = i
          · rw [e]; exact hbl
          · exact hr.out k (by omega)
        clear hr hbl hsl
        go_wp2_with fail
        refine Calls.mono hc.out ?_
        rintro e w' ⟨rfl, rfl⟩
        go_wp2_with fail
        exact ⟨⟨i + 1, by omega, by rw [show ((i + 1 : Nat) : Int) = (i : Int) + 1 by omega], hR, trivial⟩, by simp only [iOf]; omega⟩
      | false =>
        have HS : Hid (SL wr (subA sa i cap) B (n - i) (cap - i) (fun k => F (i + k))) := h.out.from i hi
        generalize subA sa i cap = sb at *
        subst hsa
        rw [hbl] at hc
        have HB : Hid (bl (F i) = false) := hbl
        clear hbl
        go_wp2_with fail
        refine Calls.mono hc.out ?_
        rintro e w' ⟨rfl, hw'⟩
        rw [hw']
        clear hw'
        go_wp2_with fail
        go_ret
        exact ⟨i, sb, rfl, ⟨hi, hr.out, fun _ => HB.out⟩, HS.out, rfl⟩
    · have hd : decide ((i : Int) < (n : Int)) = false := by simp; omega
      have hsl := fun wx => sl_l wx sa n cap i hi
      have HS : Hid (SL wr (subA sa i cap) B (n - i) (cap - i) (fun k => F (i + k))) := h.out.from i hi
      generalize subA sa i cap = sb at *
      go_wp2_with fail
      go_ret
      exact ⟨i, sb, rfl, ⟨hi, hr.out, fun h => absurd h h0⟩, HS.out, rfl⟩

theorem indexB_any (sa : Option Addr) (B n cap : Nat) (F : Nat → Int) (c : Int) (hn : n ≤ 1048576) (w : World) (h : Hid (SL w sa B n cap F)) :
    Calls Yba.prog 28 #[.slice sa n cap, .int .u8 c] w fun e w' => ((∃ i : Nat, e = .returned (.int .i64 i) ∧ FirstAt F n c i) ∨ (e = .returned (.int .i64 (-1)) ∧ ∀ k, k < n → F k ≠ c)) ∧ w' = w := by
  have hnc := h.out.1
  obtain ⟨o, ho⟩ := h.out.form
  have HO : Hid (∀ i, i < n → sa = some ⟨B, o, none⟩ ∧ w.cell? ⟨B, o + i, none⟩ = some (.int .u8 (F i))) := ho
  clear ho
  go_enter Yba.func28, Yba.ntmps28
  go_wp2_with fail
  go_loopw [5] (fun x wr => ∃ i : Nat, i ≤ n ∧ x = .int .i64 i ∧ Hid (∀ k, k < i → F k ≠ c) ∧ wr = w) (fun x _ => n - (iOf x).toNat)
  case atStart => exact ⟨0, by omega, rfl, fun k h => absurd h (by omega), rfl⟩
  case round =>
    obtain ⟨i, hi, rfl, hr, rfl⟩ := hrel
    by_cases h0 : i < n
    · have hd : decide ((i : Int) < (n : Int)) = true := by simp; omega
      obtain ⟨rfl, hb⟩ := HO.out i h0
      by_cases e : F i = c
      · have he : (F i == c) = true := by simp [e]
        have HE : Hid (F i = c) := e
        clear e
        go_wp2_with fail
        go_ret
        exact ⟨.inl ⟨i, rfl, h0, HE.out, hr.out⟩, rfl⟩
      · have he : (F i == c) = false := by simp [e]
        have hR : Hid (∀ k, k < i + 1 → F k ≠ c) := fun k h1 => by
          by_cases e' : k = i
          · rw [e']; exact e
          · exact hr.out k (by omega)
        clear e hr
        go_wp2_with fail
        exact ⟨⟨i + 1, by omega, by rw [show ((i + 1 : Nat) : Int) = (i : Int) + 1 by omega], hR, trivial⟩, by simp only [iOf]; omega⟩
    · have hd : decide ((i : Int) < (n : Int)) = false := by simp; omega
      go_wp2_with fail
      go_ret
      exact ⟨.inr ⟨rfl, fun k hk => hr.out k (by omega)⟩, rfl⟩

theorem contentB_any (sa : Option Addr) (B cap : Nat) (a : ByteArray) (ha : a.size ≤ 1048576) (w : World) (h : Hid (SL w sa B a.size cap (bt a))) :
    Calls Yba.prog 22 #[.slice sa a.size cap] w fun e w' => e = .returned (.slice sa (cut a) cap) ∧ w' = w := by
  have hnc := h.out.1
  obtain ⟨o, ho⟩ := h.out.form
  have HO : Hid (∀ i, i < a.size → sa = some ⟨B, o, none⟩ ∧ w.cell? ⟨B, o + i, none⟩ = some (.int .u8 (bt a i))) := ho
  clear ho
  unfold cut
  by_cases h0 : 0 < a.size
  · have hd0 : decide ((0 : Int) < (a.size : Int)) = true := by simp; omega
    obtain ⟨rfl, hb⟩ := HO.out (a.size - 1) (by omega)
    by_cases h1 : bt a (a.size - 1) = 10
    · rw [if_pos ⟨h0, h1⟩]
      have hd1 : (bt a (a.size - 1) == 10) = true := by simp [h1]
      clear h1
      by_cases h2 : 0 < a.size - 1
      · have hd2 : decide ((0 : Int) < (a.size : Int) - 1) = true := by simp; omega
        obtain ⟨_, hb2⟩ := HO.out (a.size - 1 - 1) (by omega)
        by_cases h3 : bt a (a.size - 1 - 1) = 13
        · rw [if_pos ⟨h2, h3⟩]
          have hd3 : (bt a (a.size - 1 - 1) == 13) = true := by simp [h3]
          clear h3
          go_enter Yba.func22, Yba.ntmps22
          go_wp2_with fail
          go_ret
          exact ⟨rfl, rfl⟩
        · rw [if_neg (fun h => h3 h.2)]
          have hd3 : (bt a (a.size - 1 - 1) == 13) = false := by simp [h3]
          clear h3
          go_enter Yba.func22, Yba.ntmps22
          go_wp2_with fail
          go_ret
          exact ⟨rfl, rfl⟩
      · rw [if_neg (fun h => h2 h.1)]
        have hd2 : decide ((0 : Int) < (a.size : Int) - 1) = false := by simp; omega
        go_enter Yba.func22, Yba.ntmps22
        go_wp2_with fail
        go_ret
        exact ⟨rfl, rfl⟩
    · rw [if_neg (fun h => h1 h.2)]
      have hd1 : (bt a (a.size - 1) == 10) = false := by simp [h1]
      clear h1
      go_enter Yba.func22, Yba.ntmps22
      go_wp2_with fail
      go_ret
      exact ⟨rfl, rfl⟩
  · rw [if_neg (fun h => h0 h.1)]
    have hd0 : decide ((0 : Int) < (a.size : Int)) = false := decide_eq_false (by omega)
    go_enter Yba.func22, Yba.ntmps22
    go_wp2_with fail
    go_ret
    exact ⟨rfl, rfl⟩
end Go.Proofs.Ybulkcrak
