/-
  zzs4638bbuild (11), walked.
-/
import Derived.Test.YbulkcrakStr
import Derived.Test.YbulkcrakHeap
import Derived.Deep.AppendLies
import Derived.Laws.BytesArg
import Derived.Laws.MakeOwn
namespace Go.Proofs.Ybulkcrak
set_option linter.unusedVariables false
set_option linter.unusedSimpArgs false
open Go.RowKit Go.Deep

theorem info_parts5 {t : TypeId} {z : Value} {s b : Nat} (h : (Yba.prog.info? t).map (fun i => (i.zero, i.size, i.bytes)) = some (some z, s, b)) : ∃ i, Yba.prog.info? t = some i ∧ i.zero = some z ∧ i.size = s ∧ i.bytes = b := by
  obtain ⟨i, hi, hh⟩ := Option.map_eq_some_iff.1 h
  simp only [Prod.mk.injEq] at hh
  exact ⟨i, hi, hh⟩
theorem info5 : (Yba.prog.info? 5).map (fun i => (i.zero, i.size, i.bytes)) = some (some (.int .u8 0), 1, 1) := by kernel_rfl

theorem make0 (n : Nat) (hn : n ≤ 65536) (w : World) : (Instr.makeSlice 25 (.int .i64 0) (.int .i64 (n : Int))).run Yba.prog w = .ok (.slice (some ⟨w.heap.size, 0, none⟩) 0 n) (w.alloc (.cells (madeCells #[.int .u8 0] n) 5)) := by
  obtain ⟨i0, hi0, hz0, hz1, hz2⟩ := info_parts5 info5
  have := run_make (P := Yba.prog) w 25 5 i0 (.int .u8 0) Yba.underlying25 hi0 hz0 .i64 .i64 0 (n : Int) (by omega) (by omega) (by rw [hz2]; omega) (by omega)
  simpa [hz1, Value.cells] using this

set_option maxHeartbeats 400000 in
theorem build_any (sa : Option Addr) (sb so len cap : Nat) (Z : Nat → Int) (hlen : len ≤ 1024) (hlc : len ≤ cap) (w : World) (hst : Hid (∀ i, i < len → sa = some ⟨sb, so, none⟩ ∧ w.cell? ⟨sb, so + i, none⟩ = some (.int .u8 (Z i)) ∧ 0 ≤ Z i ∧ Z i ≤ 255)) :
    Calls Yba.prog 11 #[.slice sa len cap] w fun e w' => ∃ s : ByteArray, e = .returned (.string s) ∧ s.size = len ∧ Chg (fun x => w.heap.size ≤ x) w w' := by
  have hmk := make0 len (by omega)
  obtain ⟨i0, hi0, hz0, hz1, hz2⟩ := info_parts5 info5
  go_enter Yba.func11, Yba.ntmps11
  go_wp2_with fail
  go_loopw [3, 4] (fun v x wr => ∃ (k : Nat) (xs : List Int) (g cp : Nat), k ≤ len ∧ x = .int .i64 k ∧ xs.length = k ∧ v = .slice (some ⟨g, 0, none⟩) k cp ∧ Hid (wr.ownsRow w.heap.size 5 1 (.slice (some ⟨g, 0, none⟩) k cp) k (xs.map (Value.int .u8))) ∧ Hid (Chg (fun x => w.heap.size ≤ x) w wr)) (fun v x _ => len - (iOf x).toNat)
  case atStart => exact ⟨0, [], w.heap.size, len, by omega, rfl, rfl, rfl, World.ownsRow_made w _ len (Nat.le_refl _) (by unfold maxLen; omega) (by simp [size_madeCells]), (Chg.refl _ _).alloc _⟩
  case round =>
    obtain ⟨k, xs, g, cp, hk, rfl, hxl, rfl, HO, HC⟩ := hrel
    rcases (by omega : k < len ∨ k = len) with h1 | h1
    · have hd1 : decide ((k : Int) < (len : Int)) = true := by simp; omega
      obtain ⟨rfl, hz, hz0', hz1'⟩ := hst.out k h1
      obtain ⟨z, hZ⟩ : ∃ z, z = Z k := ⟨_, rfl⟩
      rw [← hZ] at hz hz0' hz1'
      clear hZ
      have hcz : wr.cell? ⟨sb, so + k, none⟩ = some (.int .u8 z) := by
        have hl : sb < w.heap.size := World.block_lt_of_cell? w _ hz
        rw [HC.out.cell hl (by show ¬ w.heap.size ≤ sb; omega)]; exact hz
      have htb := bt_eq ⟨#[32, 9, 61, 97, 98, 59, 35, 91, 13, 10]⟩ (z % 10).toNat (by show _ < 10; omega)
      obtain ⟨hb0, hb1⟩ := bt_u8 ⟨#[32, 9, 61, 97, 98, 59, 35, 91, 13, 10]⟩ (z % 10).toNat
      generalize bt ⟨#[32, 9, 61, 97, 98, 59, 35, 91, 13, 10]⟩ (z % 10).toNat = tv at *
      go_wp2_with (at_builtin; refine wpList_append_lies _ rfl (.tmp 14) (.tmp 22) 25 rfl w.heap.size 5 i0 (.int .u8 0) 1 1 Yba.underlying25 hi0 hz0 hz1 hz2 rfl (by decide) (.slice (some ⟨g, 0, none⟩) k cp) k (xs.map (Value.int .u8)) rfl (HO.out.alloc _) ⟨wr.heap.size, 0, none⟩ 1 1 [.int .u8 tv] rfl rfl ?c1 ?c2 (by decide) ?c3 ?c4 ?c5 (wr.heap.size + 1) ?c6 ?_)
      case c2 => rfl
      case c3 => unfold maxLen; omega
      case c4 => omega
      case c5 => have := HC.out.size; omega
      intro g' cp' W5 hown hgrow hat hlt5
      have HO5 : Hid (W5.ownsRow w.heap.size 5 1 (.slice (some ⟨g', 0, none⟩) (k + 1) cp') (k + 1) ((xs ++ [tv]).map (Value.int .u8))) := by rw [List.map_append]; exact hown
      have HC5 : Hid (Chg (fun x => w.heap.size ≤ x) w W5) := (HC.out.alloc _).grown hgrow (fun b hb hlt => absurd hlt (by have := (HO.out.lt b hb).1; omega))
      clear hown hgrow hat hlt5 HO HC
      go_wp2_with fail
      exact ⟨⟨k + 1, xs ++ [tv], g', cp', by omega, by rw [show ((k + 1 : Nat) : Int) = (k : Int) + 1 by omega], by simp; omega, rfl, HO5, HC5⟩, by simp only [iOf]; omega⟩
    · subst h1
      have hcv := run_convert_bytes_arg (P := Yba.prog) wr 25 5 Yba.underlying25 Yba.underlying5 g 0 k cp xs hxl (fun i hi => by
        rw [Nat.zero_add, HO.out.cellAt i (by omega)]
        simp [List.getD_eq_getElem?_getD, List.getElem?_eq_getElem (show i < xs.length by omega)]) 9 Yba.underlying9
      have hss := strOfNums_size xs
      generalize strOfNums xs = ss at *
      go_wp2_with fail
      go_ret
      exact ⟨_, rfl, by omega, HC.out⟩
end Go.Proofs.Ybulkcrak
