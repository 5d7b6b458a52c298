/-
  The clockStore's leaves, walked: chunks.at (28), clockStore.node (24), fix (10).
-/
import Derived.Test.YbulkcqyuCStore
import Derived.Deep.RegionHeld3
import Derived.Deep.DrawnRows
import Derived.Deep.QuietTactic
import Derived.BigQuiet
namespace Go.Proofs.Ybulkcqyu
set_option linter.unusedVariables false
set_option linter.unusedSimpArgs false
open Go.RowKit Go.Deep

theorem bits_and_4095 (i : Nat) (h : i < 4294967296) : bits .and .u32 (i : Int) 4095 = ((i % 4096 : Nat) : Int) := by
  have := u32_and_nat i 4095 h (by decide)
  rw [show ((4095 : Nat) : Int) = 4095 from rfl] at this
  rw [this, show i &&& 4095 = i % 4096 from Nat.and_two_pow_sub_one_eq_mod i 12]

set_option maxHeartbeats 400000 in
theorem at_any {base b N fx ll : Nat} {nd : Nat → Nat → Nat} {lv : Value} {cb : Nat → Nat} (i : Nat) (w : World) (h : Hid (St w base b N fx nd lv ll cb)) (hi : i < ll * 4096) (hl : ll ≤ 100) :
    Calls Yba.prog 28 #[.pointer (some ⟨b, 0, none⟩), .int .u32 i] w fun e w' => e = .returned (.pointer (some ⟨cb (i / 4096), i % 4096 * 4, none⟩)) ∧ w' = w := by
  have hb := bits_and_4095 i (by omega)
  have hq : i / 4096 < ll := by omega
  have hm : i % 4096 < 4096 := by omega
  obtain ⟨lb, lc, rfl, c1⟩ := h.out.list hi
  have c0 := h.out.rb.cell (i := 0) (by omega)
  simp only [if_true] at c0
  generalize cb (i / 4096) = cbk at *
  go_enter Yba.func28, Yba.ntmps28
  go_wp2_with fail
  go_ret
  exact ⟨rfl, rfl⟩

set_option maxHeartbeats 400000 in
theorem node_any {base b N fx ll : Nat} {nd : Nat → Nat → Nat} {lv : Value} {cb : Nat → Nat} (i : Nat) (w : World) (h : Hid (St w base b N fx nd lv ll cb)) (hi : i < ll * 4096) (hl : ll ≤ 100) :
    Calls Yba.prog 24 #[.pointer (some ⟨b, 0, none⟩), .int .u32 i] w fun e w' => e = .returned (.pointer (some ⟨cb (i / 4096), i % 4096 * 4, none⟩)) ∧ w' = w := by
  go_enter Yba.func24, Yba.ntmps24
  go_wp2_with fail
  refine (at_any i _ h hi hl).mono ?_
  rintro e w' ⟨rfl, rfl⟩
  go_wp2_with fail
  go_ret
  exact ⟨rfl, rfl⟩

set_option maxHeartbeats 400000 in
theorem fix_any {base b N fx ll : Nat} {nd : Nat → Nat → Nat} {lv : Value} {cb : Nat → Nat} (w : World) (h : Hid (St w base b N fx nd lv ll cb)) :
    Calls Yba.prog 10 #[.pointer (some ⟨b, 0, none⟩)] w fun e w' => e = .returned (.tuple #[]) ∧ w' = w.setCell ⟨b, 2, none⟩ (.int .u32 (N : Int)) := by
  have c1 := h.out.rb.cell (i := 1) (by omega)
  have c2 := h.out.rb.cell (i := 2) (by omega)
  have f2 := h.out.rb.frozen 2
  simp at c1 c2
  go_enter Yba.func10, Yba.ntmps10
  go_wp2_with fail
  go_end0
  exact ⟨rfl, rfl⟩

def allZ (l : List Value) : Bool := l.all (fun v => match v with | .int .u32 n => n == 0 | _ => false)
def lenIs : List Value → Nat → Bool
  | [], n => n == 0
  | _ :: l, n => match n with | 0 => false | n + 1 => lenIs l n
theorem lenIs_spec : ∀ (l : List Value) (n : Nat), lenIs l n = true → l.length = n
  | [], n, h => by simp [lenIs] at h; simp [h]
  | a :: l, 0, h => by simp [lenIs] at h
  | a :: l, n + 1, h => by simp only [lenIs] at h; simp [lenIs_spec l n h]
theorem z85_len : lenIs (Yba.t85.zero.getD undef).cells.toList 16384 = true := by kernel_rfl
theorem z85_zero : allZ (Yba.t85.zero.getD undef).cells.toList = true := by kernel_rfl
theorem al85' (w : World) : (Instr.alloc 85 true (.tuple #[])).run Yba.prog w = .ok (.pointer (some ⟨w.heap.size, 0, none⟩)) (w.alloc (.cells (Yba.t85.zero.getD undef).cells 85)) := by
  kernel_rfl
theorem al85 : ∃ Z : Array Value, (∀ w, (Instr.alloc 85 true (.tuple #[])).run Yba.prog w = .ok (.pointer (some ⟨w.heap.size, 0, none⟩)) (w.alloc (.cells Z 85))) ∧ ∀ w : World, (w.alloc (.cells Z 85)).rowIs w.heap.size 85 16384 (fun _ => .int .u32 0) := by
  refine ⟨_, al85', fun w => ⟨_, blk_alloc_new _ _, ?_, fun i hi => ?_⟩⟩
  · rw [← Array.length_toList]; exact lenIs_spec _ _ z85_len
  · have hl : (Yba.t85.zero.getD undef).cells.toList.length = 16384 := lenIs_spec _ _ z85_len
    have hz := z85_zero
    generalize (Yba.t85.zero.getD undef).cells = Z at *
    have hs : i < Z.size := by rw [← Array.length_toList]; omega
    have hm := List.all_eq_true.1 hz (Z[i]) (by simp)
    rw [Array.getElem?_eq_getElem hs]
    revert hm
    cases Z[i] <;> simp
    rename_i k n
    cases k <;> simp
end Go.Proofs.Ybulkcqyu
