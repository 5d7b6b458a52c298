/-
  LawS4638ABytes (4), walked.
-/
import Derived.Test.YbulkcrakTrim
import Derived.Deep.QuietTactic
import Derived.BigQuiet
namespace Go.Proofs.Ybulkcrak
set_option linter.unusedVariables false
set_option linter.unusedSimpArgs false
open Go.RowKit Go.Deep

/-- the table's byte for a code -/
def tb (z : Int) : Int := bt ⟨#[97, 32, 9, 93, 120]⟩ (z % 5).toNat

set_option maxHeartbeats 400000 in
theorem bytes_any (sa : Option Addr) (sb so len cap : Nat) (Z : Nat → Int) (hlen : len ≤ 65536) (hlc : len ≤ cap) (w : World) (hst : Hid (∀ i, i < len → sa = some ⟨sb, so, none⟩ ∧ w.cell? ⟨sb, so + i, none⟩ = some (.int .u8 (Z i)) ∧ 0 ≤ Z i ∧ Z i ≤ 255)) :
    Calls Yba.prog 4 #[.slice sa len cap] w fun e w' => e = .returned (.bool true) ∧ Below w.heap.size w w' := by
  have hd : decide ((65536 : Int) < (len : Int)) = false := by simp; omega
  have hmk := run_make_row' (P := Yba.prog) 25 5 (.int .u8 0) 1 Yba.underlying25 (by kernel_rfl) rfl .i64 .i64 len (by omega) (by omega)
  go_enter Yba.func4, Yba.ntmps4
  go_wp2_with fail
  go_loopw [4] (fun x wr => ∃ k : Nat, k ≤ len ∧ x = .int .i64 k ∧ Hid (wr.rowIs w.heap.size 5 len (fun i => .int .u8 (if i < k then tb (Z i) else 0))) ∧ Hid (Chg (fun x => w.heap.size ≤ x) w wr)) (fun x _ => len - (iOf x).toNat)
  case atStart => exact ⟨0, by omega, rfl, (World.rowIs_made w (.int .u8 0) len 5).congr (fun i hi => by simp), (Chg.refl _ _).alloc _⟩
  case round =>
    obtain ⟨k, hk, rfl, HR, HC⟩ := hrel
    rcases (by omega : k < len ∨ k = len) with h1 | h1
    · have hd1 : decide ((k : Int) < (len : Int)) = true := by simp; omega
      obtain ⟨rfl, hz, hz0, hz1⟩ := hst.out k h1
      obtain ⟨z, hZ⟩ : ∃ z, z = Z k := ⟨_, rfl⟩
      rw [← hZ] at hz hz0 hz1
      have HZ : Hid (z = Z k) := hZ
      clear hZ
      have hcz : wr.cell? ⟨sb, so + k, none⟩ = some (.int .u8 z) := by
        have hl : sb < w.heap.size := World.block_lt_of_cell? w _ hz
        rw [HC.out.cell hl (by show ¬ w.heap.size ≤ sb; omega)]; exact hz
      have hcb := HR.out.cell (i := k) (by omega)
      have hcf := HR.out.frozen k
      simp at hcb
      have htb := bt_eq ⟨#[97, 32, 9, 93, 120]⟩ (z % 5).toNat (by show _ < 5; omega)
      go_wp2_with fail
      refine ⟨⟨k + 1, by omega, by rw [show ((k + 1 : Nat) : Int) = (k : Int) + 1 by omega], ?_, HC.out.setCell (p := ⟨w.heap.size, k, none⟩) (fun h => absurd h (by show ¬ w.heap.size < w.heap.size; omega)) _⟩, by simp only [iOf]; omega⟩
      refine (HR.out.set k _).congr (fun i hi => ?_)
      by_cases e : i = k
      · subst e
        rw [if_pos rfl, if_pos (by omega), ← HZ.out]; rfl
      · rw [if_neg e]
        by_cases e2 : i < k
        · rw [if_pos e2, if_pos (by omega)]
        · rw [if_neg e2, if_neg (by omega)]
    · subst h1
      have HR1 : Hid (wr.rowIs w.heap.size 5 k (fun i => .int .u8 (tb (Z i)))) := HR.out.congr (fun i hi => by rw [if_pos hi])
      have htr := (show Hid _ from trimB_any (some ⟨w.heap.size, 0, none⟩) w.heap.size 0 k k (fun i => tb (Z i)) (by omega) (Nat.le_refl _) wr (fun i hi => ⟨rfl, by rw [Nat.zero_add]; exact HR1.out.cell hi⟩))
      clear HR
      go_wp2_with fail
      refine Calls.mono htr.out ?_
      rintro e w1 ⟨r, rfl, htf, hw1⟩
      rw [← hw1] at HR1 HC
      clear hw1
      have HT : Hid (TrimF (fun i => tb (Z i)) k r) := htf
      have hrk := htf.le
      clear htf htr
      have hd2 : decide ((k : Int) < (r : Int)) = false := by simp; omega
      have hd2' : ¬ k < r := by omega
      go_wp2_with fail
      go_loopw [7] (fun x wr => ∃ j : Nat, j ≤ k ∧ x = .int .i64 j ∧ Hid (wr.rowIs w.heap.size 5 k (fun i => .int .u8 (tb (Z i)))) ∧ Hid (Chg (fun x => w.heap.size ≤ x) w wr)) (fun x _ => k - (iOf x).toNat)
      case atStart => exact ⟨0, by omega, rfl, HR1, HC⟩
      case round =>
        clear HR1 HC
        obtain ⟨j, hj, rfl, HR1, HC⟩ := hrel
        rcases (by omega : j < k ∨ j = k) with h1 | h1
        · have hd1 : decide ((j : Int) < (k : Int)) = true := by simp; omega
          obtain ⟨rfl, hz, hz0, hz1⟩ := hst.out j h1
          have hcb := HR1.out.cell (i := j) (by omega)
          obtain ⟨z, hZ⟩ : ∃ z, z = Z j := ⟨_, rfl⟩
          rw [← hZ] at hz hz0 hz1 hcb
          clear hZ
          have htb := bt_eq ⟨#[97, 32, 9, 93, 120]⟩ (z % 5).toNat (by show _ < 5; omega)
          have hcz : wr.cell? ⟨sb, so + j, none⟩ = some (.int .u8 z) := by
            have hl : sb < w.heap.size := World.block_lt_of_cell? w _ hz
            rw [HC.out.cell hl (by show ¬ w.heap.size ≤ sb; omega)]; exact hz
          have htd : tb z = bt ⟨#[97, 32, 9, 93, 120]⟩ (z % 5).toNat := rfl
          rw [htd] at hcb
          clear htd
          generalize bt ⟨#[97, 32, 9, 93, 120]⟩ (z % 5).toNat = tv at *
          go_wp2_with fail
          go_quiet (fail)
          go_wp2_with fail
          exact ⟨⟨j + 1, by omega, by rw [show ((j + 1 : Nat) : Int) = (j : Int) + 1 by omega], HR1, HC.out.drewN nq⟩, by simp only [iOf]; omega⟩
        · subst h1
          go_wp2_with fail
          go_loopw [8] (fun x wr => ∃ i : Nat, i ≤ r ∧ x = .int .i64 i ∧ Hid (wr.rowIs w.heap.size 5 j (fun i => .int .u8 (tb (Z i)))) ∧ Hid (Chg (fun x => w.heap.size ≤ x) w wr)) (fun x _ => r - (iOf x).toNat)
          case atStart => exact ⟨0, by omega, rfl, HR1, HC⟩
          case round =>
            clear HR1 HC
            obtain ⟨i, hi, rfl, HR1, HC⟩ := hrel
            rcases (by omega : i < r ∨ i = r) with h1 | h1
            · have hd1 : decide ((i : Int) < (r : Int)) = true := by simp; omega
              have hcb := HR1.out.cell (i := i) (by omega)
              generalize tb (Z i) = tv at *
              go_wp2_with fail
              go_quiet (fail)
              go_wp2_with fail
              exact ⟨⟨i + 1, by omega, by rw [show ((i + 1 : Nat) : Int) = (i : Int) + 1 by omega], HR1, HC.out.drewN nq⟩, by simp only [iOf]; omega⟩
            · subst h1
              by_cases h0 : 0 < i
              · have hd3 : decide ((0 : Int) < (i : Int)) = true := by simp; omega
                have hcl := HR1.out.cell (i := i - 1) (by omega)
                have hcr := (show Hid _ from ablank_any (tb (Z (i - 1))) wr)
                rw [HT.out.last h0] at hcr
                generalize tb (Z (i - 1)) = tl at *
                go_wp2_with fail
                refine Calls.mono hcr.out ?_
                rintro e w2 ⟨rfl, hw2⟩
                rw [← hw2] at HR1 HC
                clear hw2 hcl
                go_wp2_with fail
                go_loopw [9] (fun x wr => ∃ m : Nat, i ≤ m ∧ m ≤ j ∧ x = .int .i64 m ∧ Hid (wr.rowIs w.heap.size 5 j (fun i => .int .u8 (tb (Z i)))) ∧ Hid (Chg (fun x => w.heap.size ≤ x) w wr)) (fun x _ => j - (iOf x).toNat)
                case atStart => exact ⟨_, Nat.le_refl _, hrk, rfl, HR1, HC⟩
                case round =>
                  clear HR1 HC
                  obtain ⟨m, hm, hm2, rfl, HR1, HC⟩ := hrel
                  rcases (by omega : m < j ∨ m = j) with h1 | h1
                  · have hd1 : decide ((m : Int) < (j : Int)) = true := by simp; omega
                    have hcb := HR1.out.cell (i := m) (by omega)
                    have hck := (show Hid _ from ablank_any (tb (Z m)) wr)
                    rw [HT.out.rest m hm h1] at hck
                    generalize tb (Z m) = tv at *
                    go_wp2_with fail
                    refine Calls.mono hck.out ?_
                    rintro e w'' ⟨rfl, hw''⟩
                    rw [← hw''] at HR1 HC
                    clear hw''
                    go_wp2_with fail
                    exact ⟨⟨m + 1, by omega, by omega, by rw [show ((m + 1 : Nat) : Int) = (m : Int) + 1 by omega], HR1, HC⟩, by simp only [iOf]; omega⟩
                  · subst h1
                    go_wp2_with fail
                    go_ret
                    exact ⟨rfl, HC.out.below (Nat.le_refl _) (fun b hb => by omega)⟩
              · have e0 : i = 0 := by omega
                subst e0
                go_wp2_with fail
                go_loopw [9] (fun x wr => ∃ m : Nat, 0 ≤ m ∧ m ≤ j ∧ x = .int .i64 m ∧ Hid (wr.rowIs w.heap.size 5 j (fun i => .int .u8 (tb (Z i)))) ∧ Hid (Chg (fun x => w.heap.size ≤ x) w wr)) (fun x _ => j - (iOf x).toNat)
                case atStart => exact ⟨_, Nat.le_refl _, hrk, rfl, HR1, HC⟩
                case round =>
                  clear HR1 HC
                  obtain ⟨m, hm, hm2, rfl, HR1, HC⟩ := hrel
                  rcases (by omega : m < j ∨ m = j) with h1 | h1
                  · have hd1 : decide ((m : Int) < (j : Int)) = true := by simp; omega
                    have hcb := HR1.out.cell (i := m) (by omega)
                    have hck := (show Hid _ from ablank_any (tb (Z m)) wr)
                    rw [HT.out.rest m hm h1] at hck
                    generalize tb (Z m) = tv at *
                    go_wp2_with fail
                    refine Calls.mono hck.out ?_
                    rintro e w'' ⟨rfl, hw''⟩
                    rw [← hw''] at HR1 HC
                    clear hw''
                    go_wp2_with fail
                    refine ⟨?_, ?_⟩
                    · (repeat apply Exists.intro)
                      refine ⟨?_, rfl⟩
                      exact ⟨m + 1, by omega, by omega, by rw [show ((m + 1 : Nat) : Int) = (m : Int) + 1 by omega], HR1, HC⟩
                    · show j - (iOf (.int .i64 ((m : Int) + 1))).toNat < j - (iOf (.int .i64 (m : Int))).toNat
                      simp only [iOf]; omega
                  · subst h1
                    go_wp2_with fail
                    go_ret
                    exact ⟨rfl, HC.out.below (Nat.le_refl _) (fun b hb => by omega)⟩
end Go.Proofs.Ybulkcrak
