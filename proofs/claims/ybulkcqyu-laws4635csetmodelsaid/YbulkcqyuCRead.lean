/-
  The clock's readers, walked: holds (17), placeBelow (18), nodeAt (25), get (11).
-/
import Derived.Test.YbulkcqyuCPlain
namespace Go.Proofs.Ybulkcqyu
set_option linter.unusedVariables false
set_option linter.unusedSimpArgs false
open Go.RowKit Go.Deep

theorem i32_mask3 (a : Nat) (h : a < 2147483648) : bits .and .i32 (a : Int) 3 = ((a % 4 : Nat) : Int) := by
  have := bits_mask .i32 31 (by decide) wraps_i32 2 (by omega) (a : Int) (by omega) (by omega)
  rw [show (2 : Int) ^ 2 - 1 = 3 from rfl] at this
  rw [this]; omega
theorem shr4 (c h : Nat) : ((c : Int) / 2 ^ (2 * h)) = ((c / 4 ^ h : Nat) : Int) := by
  rw [show (2 : Int) ^ (2 * h) = ((4 ^ h : Nat) : Int) by rw [Int.pow_mul]; push_cast; rfl]
  exact (Int.natCast_ediv _ _).symm

set_option maxHeartbeats 400000 in
theorem holds_any (r h c : Nat) (w : World) (hh : h ≤ 10) (hc : c ≤ 255) :
    Calls Yba.prog 17 #[.agg #[.int .u32 r, .int .i32 h], .int .i32 c] w fun e w' => e = .returned (.bool (decide (c < 4 ^ (h + 1)))) ∧ w' = w.alloc (.cells #[.int .u32 r, .int .i32 h] 55) := by
  have hb : ((c : Int) / 2 ^ (2 * (h + 1)) == 0) = decide (c < 4 ^ (h + 1)) := by
    rw [shr4]
    have hp : 0 < 4 ^ (h + 1) := Nat.pow_pos (by omega)
    rw [Bool.eq_iff_iff]
    simp only [beq_iff_eq, decide_eq_true_eq]
    rw [← Nat.div_eq_zero_iff_lt hp]
    omega
  go_enter Yba.func17, Yba.ntmps17
  go_wp2_with fail
  go_ret
  refine ⟨?_, rfl⟩
  rw [← hb]
  rfl

/-- the way down by one level: the facts that the walk asks for -/
theorem digs (c h : Nat) (hc : c ≤ 255) (hh : h ≤ 10) : ∃ d : Nat, d = dig c h ∧ d < 4 ∧ IntKind.i32.wrap (2 * (h : Int)) = 2 * (h : Int) ∧ bits .and .i32 ((c : Int) / 2 ^ (2 * (h : Int)).toNat) 3 = (d : Int) ∧ bits .and .i32 ((c : Int) / 2 ^ (2 * h)) 3 = (d : Int) := by
  have e : bits .and .i32 ((c : Int) / 2 ^ (2 * h)) 3 = (dig c h : Int) := by
    rw [shr4]; exact i32_mask3 _ (Nat.lt_of_le_of_lt (Nat.div_le_self _ _) (by omega))
  exact ⟨_, rfl, dig_lt _ _, wraps_i32 _ (by omega) (by omega), by rw [show (2 * (h : Int)).toNat = 2 * h by omega]; exact e, e⟩

set_option maxHeartbeats 400000 in
theorem place_any {base b N fx : Nat} {nd : Nat → Nat → Nat} {Fp : Nat → Prop} (n h c : Nat) (w : World) (H : Hid (Str w base b N fx nd Fp)) (hN : N ≤ 400000) (hh : h ≤ 10) (hc : c ≤ 255) (hw : Wf nd N h n) :
    Calls Yba.prog 18 #[.pointer (some ⟨b, 0, none⟩), .int .u32 n, .int .i32 h, .int .i32 c] w fun e w' => e = .returned (.int .u32 (rd nd h n c : Nat)) ∧ ∃ k, w' = w.drewN k := by
  obtain ⟨lv, ll, cb, hs, _, _, hll⟩ := H.out
  have HS : Hid (St w base b N fx nd lv ll cb) := hs
  have hroom := hs.room
  clear hs
  have hm0 : bits .and .i32 (c : Int) 3 = ((dig c 0 : Nat) : Int) := by rw [i32_mask3 c (by omega)]; unfold dig; simp
  go_enter Yba.func18, Yba.ntmps18
  go_wp2_with fail
  go_loopw [1, 9] (fun a x wr => ∃ (n' h' : Nat), h' ≤ 10 ∧ Wf nd N h' n' ∧ rd nd h' n' c = rd nd h n c ∧ a = .int .u32 n' ∧ x = .int .i32 h' ∧ Hid (∃ k, wr = w.drewN k)) (fun _ x _ => (intOf x).toNat)
  case atStart => exact ⟨n, h, hh, hw, rfl, rfl, rfl, 0, rfl⟩
  case round =>
    obtain ⟨n', h', hh', hw', hr, rfl, rfl, HK⟩ := hrel
    have hlt := hw'.lt
    have HS' : Hid (St wr base b N fx nd lv ll cb) := by obtain ⟨k, rfl⟩ := HK.out; exact HS.out.drewN k
    have hnode := (show Hid (∀ k, _) from fun k => node_any n' (wr.drewN k) (HS'.out.drewN k) (by omega) (by omega))
    have hcell := HS'.out.node (i := n') (j := dig c h') (by omega) (dig_lt _ _)
    have hcell0 := HS'.out.node (i := n') (j := dig c 0) (by omega) (dig_lt _ _)
    generalize cb (n' / 4096) = cbk at *
    generalize n' % 4096 * 4 = off at *
    have hd0 := dig_lt c 0
    obtain ⟨d, hd, hd4, hw2, hmask, hmask'⟩ := digs c h' hc hh'
    by_cases h0 : 0 < h'
    · by_cases hn0 : n' = 0
      · subst hn0
        have hrz : rd nd h n c = nd 0 (dig c 0) := by
          rw [← hr]; obtain ⟨h'', rfl⟩ : ∃ k, h' = k + 1 := ⟨h' - 1, by omega⟩; unfold rd; rw [if_pos rfl]
        generalize dig c 0 = d0 at *
        go_wp2_with fail
        refine Calls.mono (hnode.out 0) ?_
        rintro e w' ⟨rfl, rfl⟩
        go_wp2_with fail
        go_ret
        exact ⟨by rw [hrz]; rfl, HK.out⟩
      · have hb : ((n' : Int) != 0) = true := by simp; omega
        have hkid : Wf nd N (h' - 1) (nd n' (dig c h')) := by
          obtain ⟨h'', rfl⟩ : ∃ k, h' = k + 1 := ⟨h' - 1, by omega⟩
          exact hw'.kid hn0 (dig_lt c (h'' + 1))
        have hrk : rd nd (h' - 1) (nd n' (dig c h')) c = rd nd h n c := by
          obtain ⟨h'', rfl⟩ : ∃ k, h' = k + 1 := ⟨h' - 1, by omega⟩
          rw [← hr]; show _ = (if n' = 0 then _ else _); rw [if_neg hn0]; rfl
        rw [← hd] at hcell hkid hrk
        clear hd
        go_wp2_with fail
        go_quiet ((go_at_call 24; exact Calls.quiet_of_same (hnode.out _)))
        go_wp2_with fail
        refine ⟨⟨_, h' - 1, by omega, hkid, hrk, rfl, by rw [show ((h' - 1 : Nat) : Int) = (h' : Int) - 1 by omega], ?_⟩, by simp only [intOf]; omega⟩
        obtain ⟨k, rfl⟩ := HK.out
        exact ⟨_, World.drewN_drewN _ _ _⟩
    · have e0 : h' = 0 := by omega
      subst e0
      have hrz : rd nd h n c = nd n' (dig c 0) := by rw [← hr]; rfl
      generalize dig c 0 = d0 at *
      go_wp2_with fail
      refine Calls.mono (hnode.out 0) ?_
      rintro e w' ⟨rfl, rfl⟩
      go_wp2_with fail
      go_ret
      exact ⟨by rw [hrz]; rfl, HK.out⟩

set_option maxHeartbeats 400000 in
theorem nodeAt_any {base b N fx : Nat} {nd : Nat → Nat → Nat} {Fp : Nat → Prop} (rf hf h c : Nat) (w : World) (H : Hid (Str w base b N fx nd Fp)) (hN : N ≤ 400000) (hh : h ≤ 10) (hhf : hf ≤ 10) (hc : c ≤ 255) (hw : Wf nd N hf rf) :
    Calls Yba.prog 25 #[.pointer (some ⟨b, 0, none⟩), .agg #[.int .u32 rf, .int .i32 hf], .int .i32 h, .int .i32 c] w fun e w' => e = .returned (.int .u32 (na nd rf hf c h : Nat)) ∧ Chg (fun _ => False) w w' := by
  obtain ⟨lv, ll, cb, hs, _, _, hll⟩ := H.out
  have HS : Hid (St w base b N fx nd lv ll cb) := hs
  have hroom := hs.room
  clear hs
  have hb1 : Hid (Chg (fun _ => False) w (w.alloc (.cells #[.int .u32 rf, .int .i32 hf] 55))) := (Chg.refl _ _).alloc _
  have hb2 : Hid (Chg (fun _ => False) w ((w.alloc (.cells #[.int .u32 rf, .int .i32 hf] 55)).alloc (.cells #[.int .u32 rf, .int .i32 hf] 55))) := ((Chg.refl _ _).alloc _).alloc _
  have hholds := (show Hid (∀ w, _) from fun w => holds_any rf hf c w hhf hc)
  by_cases h1 : hf < h
  · have hd1 : decide ((hf : Int) < (h : Int)) = true := by simp; omega
    have hna : na nd rf hf c h = 0 := by unfold na; rw [if_pos h1]
    go_enter Yba.func25, Yba.ntmps25
    go_wp2_with fail
    go_ret
    exact ⟨by rw [hna]; rfl, hb1.out⟩
  · have hd1 : decide ((hf : Int) < (h : Int)) = false := by simp; omega
    by_cases h2 : 4 ^ (hf + 1) ≤ c
    · have hd2 : decide (c < 4 ^ (hf + 1)) = false := by simp; omega
      rw [hd2] at hholds
      have hna : na nd rf hf c h = 0 := by unfold na; rw [if_neg h1, if_pos h2]
      go_enter Yba.func25, Yba.ntmps25
      go_wp2_with fail
      refine Calls.mono (hholds.out _) ?_
      rintro e w' ⟨rfl, rfl⟩
      go_wp2_with fail
      go_ret
      exact ⟨by rw [hna]; rfl, hb2.out⟩
    · have hd2 : decide (c < 4 ^ (hf + 1)) = true := by simp; omega
      rw [hd2] at hholds
      have hna : na nd rf hf c h = down nd c (hf - h) hf rf := by unfold na; rw [if_neg h1, if_neg h2]
      rw [hna]
      go_enter Yba.func25, Yba.ntmps25
      go_wp2_with fail
      refine Calls.mono (hholds.out _) ?_
      rintro e w' ⟨rfl, rfl⟩
      go_wp2_with fail
      go_loopw [9, 10] (fun a x wr => ∃ (n' h' : Nat), h' ≤ 10 ∧ h ≤ h' ∧ Wf nd N h' n' ∧ down nd c (h' - h) h' n' = down nd c (hf - h) hf rf ∧ a = .int .u32 n' ∧ x = .int .i32 h' ∧ Hid (Chg (fun _ => False) w wr)) (fun _ x _ => (intOf x).toNat)
      case atStart => exact ⟨rf, hf, hhf, by omega, hw, rfl, rfl, rfl, hb2.out⟩
      case round =>
        obtain ⟨n', h', hh', hle, hw', hr, rfl, rfl, HK⟩ := hrel
        have hlt := hw'.lt
        have HS' : Hid (St wr base b N fx nd lv ll cb) := HS.out.keep HK.out (fun _ x => x.elim)
        have hnode := (show Hid (∀ k, _) from fun k => node_any n' (wr.drewN k) (HS'.out.drewN k) (by omega) (by omega))
        have hcell := HS'.out.node (i := n') (j := dig c h') (by omega) (dig_lt _ _)
        generalize cb (n' / 4096) = cbk at *
        generalize n' % 4096 * 4 = off at *
        obtain ⟨d, hd, hd4, hw2, hmask, hmask'⟩ := digs c h' hc hh'
        by_cases h0 : h < h'
        · have hd3 : decide ((h : Int) < (h' : Int)) = true := by simp; omega
          by_cases hn0 : n' = 0
          · subst hn0
            have hrz : down nd c (hf - h) hf rf = 0 := by
              rw [← hr]; obtain ⟨k, hk⟩ : ∃ k, h' - h = k + 1 := ⟨h' - h - 1, by omega⟩; rw [hk]; unfold down; rw [if_pos rfl]
            go_wp2_with fail
            go_ret
            exact ⟨by rw [hrz]; rfl, HK.out⟩
          · have hb : ((n' : Int) != 0) = true := by simp; omega
            have hkid : Wf nd N (h' - 1) (nd n' (dig c h')) := by
              obtain ⟨h'', rfl⟩ : ∃ k, h' = k + 1 := ⟨h' - 1, by omega⟩
              exact hw'.kid hn0 (dig_lt c (h'' + 1))
            have hrk : down nd c (h' - 1 - h) (h' - 1) (nd n' (dig c h')) = down nd c (hf - h) hf rf := by
              rw [← hr]; obtain ⟨k, hk⟩ : ∃ k, h' - h = k + 1 := ⟨h' - h - 1, by omega⟩; rw [hk, show h' - 1 - h = k by omega]; conv => rhs; unfold down
              rw [if_neg hn0]
            rw [← hd] at hcell hkid hrk
            clear hd
            go_wp2_with fail
            go_quiet ((go_at_call 24; exact Calls.quiet_of_same (hnode.out _)))
            go_wp2_with fail
            exact ⟨⟨_, h' - 1, by omega, by omega, hkid, hrk, rfl, by rw [show ((h' - 1 : Nat) : Int) = (h' : Int) - 1 by omega], HK.out.drewN nq⟩, by simp only [intOf]; omega⟩
        · have hd3 : decide ((h : Int) < (h' : Int)) = false := by simp; omega
          have e0 : h' = h := by omega
          subst e0
          have hrz : down nd c (hf - h') hf rf = n' := by rw [← hr, Nat.sub_self]; rfl
          go_wp2_with fail
          go_ret
          exact ⟨by rw [hrz]; rfl, HK.out⟩

set_option maxHeartbeats 400000 in
theorem get_any {base b N fx : Nat} {nd : Nat → Nat → Nat} {Fp : Nat → Prop} (r h c : Nat) (w : World) (H : Hid (Str w base b N fx nd Fp)) (hN : N ≤ 400000) (hh : h ≤ 10) (hc : c ≤ 255) (hw : Wf nd N h r) :
    Calls Yba.prog 11 #[.pointer (some ⟨b, 0, none⟩), .agg #[.int .u32 r, .int .i32 h], .int .i32 c] w fun e w' => e = .returned (.int .i32 (wrap32 ((if c < 4 ^ (h + 1) then rd nd h r c else 0 : Nat) : Int))) ∧ Chg (fun _ => False) w w' := by
  have hb2 : Hid (Chg (fun _ => False) w ((w.alloc (.cells #[.int .u32 r, .int .i32 h] 55)).alloc (.cells #[.int .u32 r, .int .i32 h] 55))) := ((Chg.refl _ _).alloc _).alloc _
  have hholds := (show Hid (∀ w, _) from fun w => holds_any r h c w hh hc)
  have hplace := (show Hid _ from place_any r h c ((w.alloc (.cells #[.int .u32 r, .int .i32 h] 55)).alloc (.cells #[.int .u32 r, .int .i32 h] 55)) (H.out.grow hb2.out) hN hh hc hw)
  by_cases h2 : c < 4 ^ (h + 1)
  · have hd2 : decide (c < 4 ^ (h + 1)) = true := by simp; omega
    rw [hd2] at hholds
    rw [if_pos h2]
    generalize rd nd h r c = pl at *
    go_enter Yba.func11, Yba.ntmps11
    go_wp2_with fail
    refine Calls.mono (hholds.out _) ?_
    rintro e w' ⟨rfl, rfl⟩
    go_wp2_with fail
    refine Calls.mono hplace.out ?_
    rintro e w' ⟨rfl, k, rfl⟩
    go_wp2_with fail
    go_ret
    exact ⟨rfl, hb2.out.drewN k⟩
  · have hd2 : decide (c < 4 ^ (h + 1)) = false := by simp; omega
    rw [hd2] at hholds
    rw [if_neg h2]
    go_enter Yba.func11, Yba.ntmps11
    go_wp2_with fail
    refine Calls.mono (hholds.out _) ?_
    rintro e w' ⟨rfl, rfl⟩
    go_wp2_with fail
    go_ret
    exact ⟨by rw [show wrap32 ((0 : Nat) : Int) = 0 by unfold wrap32; decide]; rfl, hb2.out⟩
end Go.Proofs.Ybulkcqyu
