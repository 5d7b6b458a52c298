/-
  set (16), setFrom (12) from an empty clock and from another of the same height.
-/
import Derived.Test.YbulkcqyuCFrom
namespace Go.Proofs.Ybulkcqyu
set_option linter.unusedVariables false
set_option linter.unusedSimpArgs false
open Go.RowKit Go.Deep

theorem same_mod {x c : Nat} : ∀ h, Same h x c → x % 4 ^ (h + 1) = c % 4 ^ (h + 1)
  | 0, s => by
    have := s 0 (Nat.le_refl _)
    unfold dig at this
    simpa using this
  | h + 1, s => by
    rw [Nat.pow_succ 4 (h + 1), Nat.mod_mul, Nat.mod_mul, same_mod h (fun k hk => s k (by omega))]
    have := s (h + 1) (Nat.le_refl _)
    unfold dig at this
    rw [this]
theorem same_eq {h x c : Nat} (hx : x < 4 ^ (h + 1)) (hc : c < 4 ^ (h + 1)) : Same h x c ↔ x = c :=
  ⟨fun s => by have := same_mod h s; rwa [Nat.mod_eq_of_lt hx, Nat.mod_eq_of_lt hc] at this, fun e => by rw [e]; exact fun _ _ => rfl⟩

theorem na_empty (nd : Nat → Nat → Nat) (c h : Nat) : na nd 0 0 c h = 0 := by
  unfold na
  by_cases h1 : 0 < h
  · rw [if_pos h1]
  · rw [if_neg h1]
    split
    · rfl
    · rw [Nat.zero_sub]; rfl
theorem zp_empty (nd : Nat → Nat → Nat) (naf : Nat → Nat) (c : Nat) (hn : ∀ h, naf h = 0) : ∀ h n, Zp nd naf c h n
  | 0, n => fun _ => hn _
  | h + 1, n => ⟨fun _ => hn _, zp_empty nd naf c hn h _⟩

/-- what a set's clock reads -/
theorem SetP.view {nd nd' : Nat → Nat → Nat} {N fx N' : Nat} {pos pos' : Nat → Nat × Nat} {h c n place r : Nat} (s : SetP nd N fx pos nd' N' pos' h c n place r) (hc : c < 4 ^ (h + 1)) (x : Nat) : view nd' h r x = if x = c then place else view nd h n x := by
  unfold Ybulkcqyu.view
  by_cases h1 : x < 4 ^ (h + 1)
  · rw [if_pos h1, s.read x, if_pos h1]
    by_cases e : x = c
    · rw [if_pos e, if_pos ((same_eq h1 hc).2 e)]
    · rw [if_neg e, if_neg (fun s => e ((same_eq h1 hc).1 s))]
  · rw [if_neg h1, if_neg h1, if_neg (by omega)]

/-- setFrom with an empty clock to share from -/
theorem setFrom_empty {base b fx h c : Nat} {pl : Int} (place : Nat) (hpl : pl % 4294967296 = (place : Int)) (hh : h ≤ 3) (hc : c ≤ 255) (hfx : 0 < fx) (w : World) (N : Nat) (nd : Nat → Nat → Nat) (pos : Nat → Nat × Nat) (Fp : Nat → Prop) (n : Nat)
    (H : Hid (Str w base b N fx nd Fp)) (z : Zero nd) (hfN : fx ≤ N) (hN : N < 300000) (t : Tree nd N fx pos h 0 n) :
    Calls Yba.prog 12 #[.pointer (some ⟨b, 0, none⟩), .agg #[.int .u32 n, .int .i32 h], .agg #[.int .u32 (0 : Nat), .int .i32 (0 : Nat)], .int .i32 c, .int .i32 pl] w fun e w' => ∃ r h' : Nat, e = .returned (.agg #[.int .u32 r, .int .i32 h']) ∧ h' ≤ 3 ∧ (c < 4 ^ (h + 1) → h' = h) ∧ OutPost w w' base b N fx nd Fp h' r (fun x => if x = c then place else view nd h n x) := by
  refine setFrom_walk place hpl hh (by omega) hc hfx w N nd pos Fp n _ H z hfN hN t ?_
  intro W nd' N' pos' Fp' n' h' a1 a2 a3 a4 a5 a6 a7 a8 a9 _
  refine (setNode_ok (rf := 0) (hf := 0) (by omega) hc hfx h' (by omega) W N' nd' pos' Fp' n' a1 a2 (by omega) (by omega) (by rw [Nat.div_eq_of_lt a8]; exact a6) (show (0 : Nat) < fx from hfx) (zp_empty _ _ _ (na_empty nd' c) _ _)).mono ?_
  rintro e w' ⟨r, he, nd2, N2, pos2, Fp2, s1, s2, s3⟩
  have l1 := s3.le
  have l2 := s3.le1
  refine ⟨r, he, nd2, N2, pos2, Fp2, s1, s2, by omega, by omega, fun i hi j => by rw [s3.same i (by omega) (.inl hi)]; exact a5 i hi j, by have := s3.tree; rwa [Nat.div_eq_of_lt a8] at this, fun x _ => by rw [s3.view a8 x, a7 x]⟩

set_option maxHeartbeats 400000 in
theorem set_any {base b fx h c : Nat} {pl : Int} (place : Nat) (hpl : pl % 4294967296 = (place : Int)) (hh : h ≤ 3) (hc : c ≤ 255) (hfx : 0 < fx) (w : World) (N : Nat) (nd : Nat → Nat → Nat) (pos : Nat → Nat × Nat) (Fp : Nat → Prop) (n : Nat)
    (H : Hid (Str w base b N fx nd Fp)) (z : Zero nd) (hfN : fx ≤ N) (hN : N < 300000) (t : Tree nd N fx pos h 0 n) :
    Calls Yba.prog 16 #[.pointer (some ⟨b, 0, none⟩), .agg #[.int .u32 n, .int .i32 h], .int .i32 c, .int .i32 pl] w fun e w' => ∃ r h' : Nat, e = .returned (.agg #[.int .u32 r, .int .i32 h']) ∧ h' ≤ 3 ∧ OutPost w w' base b N fx nd Fp h' r (fun x => if x = c then place else view nd h n x) := by
  obtain ⟨W, hW⟩ : ∃ W, W = (w.alloc (.cells #[.int .u32 n, .int .i32 h] 55)).alloc (.cells #[.int .u32 0, .int .i32 0] 55) := ⟨_, rfl⟩
  have HW : Hid (W = (w.alloc (.cells #[.int .u32 n, .int .i32 h] 55)).alloc (.cells #[.int .u32 0, .int .i32 0] 55)) := hW
  have hcW : Hid (Chg (fun _ => False) w W) := by rw [hW]; exact ((Chg.refl _ _).alloc _).alloc _
  have szW : W.heap.size = w.heap.size + 2 := by rw [hW]; simp
  have r1 : Hid (W.rowIs (w.heap.size + 1) 55 2 (pair 0 0)) := by
    have := pair_new (w.alloc (.cells #[.int .u32 n, .int .i32 h] 55)) 0 0
    rw [show (w.alloc (.cells #[.int .u32 n, .int .i32 h] 55)).heap.size = w.heap.size + 1 by simp] at this
    rw [hW]; exact this
  clear hW
  have hcall := (show Hid _ from setFrom_empty place hpl hh hc hfx W N nd pos Fp n (H.out.grow hcW.out) z hfN hN t)
  have hwlt : Hid (∀ x, Fp x → x < w.heap.size) := fun x hx => H.out.lt hx
  go_enter Yba.func16, Yba.ntmps16
  go_wp2_with fail
  rw [← HW.out]
  refine Calls.mono hcall.out ?_
  rintro e w' ⟨r, h', rfl, hh', _, hout⟩
  obtain ⟨nd2, N2, pos2, Fp2, o1, o2, o3⟩ := hout
  have hfar : ¬ Fp2 (w.heap.size + 1) := o2.far (fun hf => by have := hwlt.out _ hf; omega) (by omega)
  have s2 := o2.1.row r1.out (fun hf => by have := hwlt.out _ hf; omega)
  have g4 : w'.cell? ⟨w.heap.size + 1, 0, none⟩ = some (.int .u32 (0 : Nat)) := s2.cell (i := 0) (by omega)
  have g5 : w'.cell? ⟨w.heap.size + 1, 1, none⟩ = some (.int .i32 (0 : Nat)) := s2.cell (i := 1) (by omega)
  have f4 := s2.frozen 0
  have f5 := s2.frozen 1
  have HO := (show Hid _ from Str.wrapUp (S := fun x => x = w.heap.size + 1) hcW.out o2 o1 hwlt.out (fun x hx => by omega) (chg_pair w' (w.heap.size + 1) (.int .u32 r) (.int .i32 h')))
  have H3 := (show Hid _ from o3)
  clear o1 o2 o3 s2 hfar
  go_wp2_with fail
  refine bodyPost_ret (v := .agg #[.int .u32 r, .int .i32 h']) ?_ rfl ⟨r, h', rfl, hh', nd2, N2, pos2, Fp2, HO.out.1, HO.out.2, H3.out⟩
  rw [results_cell1 rfl]
  go_simp

/-! ### sharing from another clock -/
theorem down_snoc {nd : Nat → Nat → Nat} (z : Zero nd) (c : Nat) : ∀ k h n, down nd c (k + 1) h n = nd (down nd c k h n) (dig c (h - k))
  | 0, h, n => by
    show (if n = 0 then 0 else nd n (dig c h)) = nd n (dig c h)
    by_cases hn : n = 0
    · rw [if_pos hn, hn, z]
    · rw [if_neg hn]
  | k + 1, h, n => by
    show (if n = 0 then 0 else down nd c (k + 1) (h - 1) (nd n (dig c h))) = nd (if n = 0 then 0 else down nd c k (h - 1) (nd n (dig c h))) (dig c (h - (k + 1)))
    by_cases hn : n = 0
    · rw [if_pos hn, if_pos hn, z]
    · rw [if_neg hn, if_neg hn, down_snoc z c k (h - 1), show h - 1 - k = h - (k + 1) by omega]
theorem na_in {nd : Nat → Nat → Nat} {rf hf c : Nat} (hc : c < 4 ^ (hf + 1)) {l : Nat} (hl : l ≤ hf) : na nd rf hf c l = down nd c (hf - l) hf rf := by
  unfold na; rw [if_neg (by omega), if_neg (by omega)]
theorem na_top {nd : Nat → Nat → Nat} {rf hf c : Nat} (hc : c < 4 ^ (hf + 1)) : na nd rf hf c hf = rf := by rw [na_in hc (Nat.le_refl _), Nat.sub_self]; rfl
theorem na_kid {nd : Nat → Nat → Nat} (z : Zero nd) {rf hf c : Nat} (hc : c < 4 ^ (hf + 1)) {l : Nat} (hl : l + 1 ≤ hf) : nd (na nd rf hf c (l + 1)) (dig c (l + 1)) = na nd rf hf c l := by
  rw [na_in hc hl, na_in hc (by omega), show hf - l = (hf - (l + 1)) + 1 by omega, down_snoc z, show hf - (hf - (l + 1)) = l + 1 by omega]
theorem zp_from {nd : Nat → Nat → Nat} (z : Zero nd) {rf hf c : Nat} (hc : c < 4 ^ (hf + 1)) : ∀ l, l ≤ hf → Zp nd (na nd rf hf c) c l (na nd rf hf c l)
  | 0, _ => fun h => h
  | l + 1, hl => ⟨fun h => h, by rw [na_kid z hc hl]; exact zp_from z hc l (by omega)⟩
theorem Wf.view {nd nd' : Nat → Nat → Nat} {B : Nat} (hB : 0 < B) (e : ∀ i, i < B → ∀ j, nd' i j = nd i j) {h n : Nat} (t : Wf nd B h n) (x : Nat) : view nd' h n x = view nd h n x := by
  unfold Ybulkcqyu.view; rw [(t.move hB e).2 x]

/-- setFrom on an empty clock of the other's height -/
theorem setFrom_share {base b fx hf rf c : Nat} {pl : Int} (place : Nat) (hpl : pl % 4294967296 = (place : Int)) (hh : hf ≤ 3) (hc : c ≤ 255) (hcf : c < 4 ^ (hf + 1)) (hfx : 0 < fx) (w : World) (N : Nat) (nd : Nat → Nat → Nat) (Fp : Nat → Prop)
    (H : Hid (Str w base b N fx nd Fp)) (z : Zero nd) (hfN : fx ≤ N) (hN : N < 300000) (wf : Wf nd fx hf rf) :
    Calls Yba.prog 12 #[.pointer (some ⟨b, 0, none⟩), .agg #[.int .u32 (0 : Nat), .int .i32 hf], .agg #[.int .u32 rf, .int .i32 hf], .int .i32 c, .int .i32 pl] w fun e w' => ∃ r h' : Nat, e = .returned (.agg #[.int .u32 r, .int .i32 h']) ∧ h' ≤ 3 ∧ (c < 4 ^ (hf + 1) → h' = hf) ∧ OutPost w w' base b N fx nd Fp h' r (fun x => if x = c ∧ view nd hf rf c < place then place else view nd hf rf x) := by
  refine setFrom_walk place hpl hh hh hc hfx w N nd (fun _ => (0, 0)) Fp 0 _ H z hfN hN (Tree.zero hfx hfN _ _) ?_
  intro W nd' N' pos' Fp' n' h' a1 a2 a3 a4 a5 a6 a7 a8 a9 a10
  obtain ⟨rfl, rfl⟩ := a10 hcf
  have wf' := (wf.move hfx a5).1
  have hvw : ∀ x, view nd' h' rf x = view nd h' rf x := fun x => wf.view hfx a5 x
  have hrc : view nd h' rf c = rd nd' h' rf c := by rw [← hvw]; unfold view; rw [if_pos hcf]
  have tr : Tree nd' N' fx pos' h' 0 rf := wf'.tree pos' (Nat.le_refl _) (by omega)
  by_cases hp : place ≤ rd nd' h' rf c
  · refine (setNode_early (e := rf) (by omega) (by omega) hc hfx W N' nd' Fp' a1 (by omega) (by omega) wf' (na_top hcf).symm hp).mono ?_
    rintro e w' ⟨he, hk⟩
    refine ⟨rf, he, nd', N', pos', Fp', a1.grow hk, Step.after hk (Step.refl _ _), a3, by omega, a5, tr, fun x _ => ?_⟩
    rw [if_neg (by omega), hvw]
  · refine (setNode_step (h := h') (rf := rf) (hf := h') (e := rf) (n := 0) (by omega) (by omega) hc hfx (fun h0 => setNode_ok (by omega) hc hfx (h' - 1) (by omega)) W N' nd' pos' Fp' a1 a2 (by omega) (by omega) (by rw [Nat.div_eq_of_lt hcf]; exact tr) wf' (fun h0 => ?_) (.inr ⟨rfl, (na_top hcf).symm, by omega⟩)).mono ?_
    · have hk := na_kid a2 (rf := rf) hcf (l := h' - 1) (by omega)
      rw [show h' - 1 + 1 = h' by omega, na_top hcf] at hk
      rw [hk]; exact zp_from a2 hcf _ (by omega)
    · rintro e w' ⟨r, he, nd2, N2, pos2, Fp2, s1, s2, s3⟩
      have l1 := s3.le
      have l2 := s3.le1
      refine ⟨r, he, nd2, N2, pos2, Fp2, s1, s2, by omega, by omega, fun i hi j => by rw [s3.same i (by omega) (.inl hi)]; exact a5 i hi j, by have := s3.tree; rwa [Nat.div_eq_of_lt hcf] at this, fun x _ => ?_⟩
      rw [s3.view hcf x]
      by_cases e : x = c
      · rw [if_pos e, if_pos ⟨e, by omega⟩]
      · rw [if_neg e, if_neg (fun h => e h.1), hvw]
end Go.Proofs.Ybulkcqyu
