/-
  The leaves of LawS4635BHeads's road, walked: (*Simulation).window (13), compact's closure (22), slices.IndexFunc (27), slices.DeleteFunc (21).
-/
import Derived.Test.YbulkcqyuRows
import Derived.Test.YbulkcqyuHeap
import Derived.Lib.SliceRun
import Derived.Deep.QuietTactic
import Derived.BigQuiet
namespace Go.Proofs.Ybulkcqyu
set_option linter.unusedVariables false
set_option linter.unusedSimpArgs false
open Go.RowKit Go.Deep

theorem zero3 : ∀ w, (zeroValue 3).run Yba.prog w = .ok (.int .i64 0) w := fun _ => by kernel_rfl

set_option maxHeartbeats 400000 in
theorem window_any (b : Nat) (k : Int) (hk0 : 1 ≤ k) (hk : k ≤ 300) (w : World)
    (c1 : w.cell? ⟨b, 1, none⟩ = some (.int .i64 k)) (c3 : w.cell? ⟨b, 3, none⟩ = some (.int .i64 k)) :
    Calls Yba.prog 13 #[.pointer (some ⟨b, 0, none⟩)] w fun e w' => e = .returned (.tuple #[.int .i64 k, .int .i64 k]) ∧ ∃ n, w' = w.drewN n := by
  go_enter Yba.func13, Yba.ntmps13
  go_wp2
  go_quiet (fail)
  go_wp2
  go_ret2
  exact ⟨rfl, _, rfl⟩

theorem idx_lt {h j m k : Nat} (hh : h < k) (hj : j < m) : h * m + j < k * m := by
  have : (h + 1) * m ≤ k * m := Nat.mul_le_mul_right _ hh
  rw [Nat.add_mul] at this
  omega

set_option maxHeartbeats 400000 in
theorem clos_any (bs bst bme bmb bh : Nat) (h m k j : Nat) (hv : Int) (w : World) (hh : h < k) (hj : j < m) (hk : k ≤ 300) (hm : m ≤ 16)
    (c1 : w.cell? ⟨bst, 0, none⟩ = some (.pointer (some ⟨bs, 0, none⟩)))
    (c2 : w.cell? ⟨bmb, 0, none⟩ = some (.int .i64 m))
    (c3 : w.cell? ⟨bme, 0, none⟩ = some (.int .i64 j))
    (c4 : w.cell? ⟨bs, 7, none⟩ = some (.slice (some ⟨bh, 0, none⟩) (k * m) (k * m)))
    (c5 : w.cell? ⟨bs, 2, none⟩ = some (.int .i64 k))
    (c6 : w.cell? ⟨bh, h * m + j, none⟩ = some (.int .i64 hv)) :
    Calls Yba.prog 22 #[.int .i64 h, .pointer (some ⟨bst, 0, none⟩), .pointer (some ⟨bmb, 0, none⟩), .pointer (some ⟨bme, 0, none⟩)] w fun e w' => e = .returned (.bool (hv != h)) ∧ ∃ n, w' = w.drewN n := by
  have hhm : h * m + j < k * m := idx_lt hh hj
  have hkm : k * m ≤ 4800 := by have := Nat.mul_le_mul hk hm; omega
  have hhm' : (h : Int) * (m : Int) + (j : Int) < (k : Int) * (m : Int) := by have := Int.ofNat_lt.2 hhm; simpa using this
  have hkm' : (k : Int) * (m : Int) ≤ 4800 := by have := Int.ofNat_le.2 hkm; simpa using this
  have hp : 0 ≤ (h : Int) * (m : Int) := Int.mul_nonneg (by omega) (by omega)
  have i2 : ((h : Int) % (k : Int)) = (h : Int) := Int.emod_eq_of_lt (by omega) (by omega)
  go_enter Yba.func22, Yba.ntmps22
  go_wp2
  go_quiet (fail)
  go_wp2
  go_ret
  exact ⟨rfl, _, rfl⟩

set_option maxHeartbeats 400000 in
theorem indexFunc_any (g n cap : Nat) (X : Nat → Int) (p : Int → Bool) (q1 q2 q3 : Value) (w : World) (hn : n ≤ 300)
    (hc : ∀ t, t < n → w.cell? ⟨g, t, none⟩ = some (.int .i64 (X t)))
    (hdel : Hid (∀ q t, t < n → Calls Yba.prog 22 #[.int .i64 (X t), q1, q2, q3] (w.drewN q) fun e w' => e = .returned (.bool (p (X t))) ∧ ∃ n, w' = w.drewN n)) :
    Calls Yba.prog 27 #[.slice (some ⟨g, 0, none⟩) n cap, .func (.func 22) #[] #[q1, q2, q3]] w fun e w' =>
      ∃ r : Int, e = .returned (.int .i64 r) ∧ (∃ n, w' = w.drewN n) ∧ ((r = -1 ∧ ∀ t, t < n → p (X t) = false) ∨ ∃ i : Nat, r = i ∧ i < n ∧ p (X i) = true ∧ ∀ t, t < i → p (X t) = false) := by
  have HC : Hid (∀ t, t < n → w.cell? ⟨g, t, none⟩ = some (.int .i64 (X t))) := hc
  clear hc
  go_enter Yba.func27, Yba.ntmps27
  go_wp2
  go_loopw [8] (fun v wr => ∃ k : Nat, k ≤ n ∧ v = .int .i64 k ∧ (∀ t, t < k → p (X t) = false) ∧ ∃ q, wr = w.drewN q) (fun v _ => n - (intOf v).toNat)
  case atStart => exact ⟨0, Nat.zero_le _, rfl, fun t ht => absurd ht (Nat.not_lt_zero _), 0, rfl⟩
  case round =>
    obtain ⟨k, hk, rfl, hpr, q, rfl⟩ := hrel
    have HP : Hid (∀ t, t < k → p (X t) = false) := hpr
    clear hpr
    by_cases hlt : k < n
    · have hcell := HC.out k hlt
      obtain ⟨b, hb⟩ : ∃ b, p (X k) = b := ⟨_, rfl⟩
      have HB : Hid (p (X k) = b) := hb
      have hdl := fun q => hdel.out q k hlt
      rw [hb] at hdl
      have HD := (show Hid _ from hdl)
      clear hdl hb
      cases b
      · go_wp2_with (go_at_call 22; refine (HD.out _).mono ?_; rintro e w' ⟨rfl, q', rfl⟩)
        go_roundw
        case rel => exact ⟨k + 1, by omega, by go_num, fun t ht => by rcases Nat.lt_succ_iff_lt_or_eq.1 ht with h | h; exact HP.out t h; rw [h]; exact HB.out, _, rfl⟩
        case measure => simp [intOf]; omega
      · go_wp2_with (go_at_call 22; refine (HD.out _).mono ?_; rintro e w' ⟨rfl, q', rfl⟩)
        go_ret
        exact ⟨k, rfl, ⟨_, rfl⟩, .inr ⟨k, rfl, hlt, HB.out, HP.out⟩⟩
    · go_wp2
      go_ret
      exact ⟨-1, rfl, ⟨_, rfl⟩, .inl ⟨rfl, fun t ht => HP.out t (by omega)⟩⟩

/-- what is kept of the first j -/
def kept (p : Int → Bool) (X : Nat → Int) (j : Nat) : List Int := ((List.range j).map X).filter (fun x => !p x)
theorem kept_succ (p : Int → Bool) (X : Nat → Int) (j : Nat) : kept p X (j + 1) = kept p X j ++ (if p (X j) then [] else [X j]) := by
  simp only [kept, List.range_succ, List.map_append, List.map_cons, List.map_nil, List.filter_append]
  cases h : p (X j) <;> simp [h]
theorem kept_le (p : Int → Bool) (X : Nat → Int) (j : Nat) : (kept p X j).length ≤ j := by
  have := List.length_filter_le (fun x => !p x) ((List.range j).map X)
  simpa [kept] using this
theorem kept_all (p : Int → Bool) (X : Nat → Int) : ∀ j, (∀ t, t < j → p (X t) = false) → kept p X j = (List.range j).map X := by
  intro j h
  unfold kept
  rw [List.filter_eq_self]
  intro x hx
  obtain ⟨t, ht, rfl⟩ := List.mem_map.1 hx
  simp [h t (List.mem_range.1 ht)]

/-- the row while the loop goes: the kept ones in front, the rest behind j as they were -/
def Mid (w wr : World) (g n cap : Nat) (X : Nat → Int) (p : Int → Bool) (j : Nat) : Prop :=
  Chg (fun b => b = g) w wr ∧ ∃ F, wr.rowIs g 3 cap F ∧ (∀ t, t < (kept p X j).length → F t = .int .i64 ((kept p X j).getD t 0)) ∧ ∀ t, j ≤ t → t < n → F t = .int .i64 (X t)

theorem Mid.skip {w wr : World} {g n cap : Nat} {X : Nat → Int} {p : Int → Bool} {j q : Nat} (h : Mid w wr g n cap X p j) (hp : p (X j) = true) : Mid w (wr.drewN q) g n cap X p (j + 1) := by
  obtain ⟨hc, F, hr, h1, h2⟩ := h
  refine ⟨hc.drewN q, F, hr, ?_, fun t a b => h2 t (by omega) b⟩
  rw [kept_succ, hp]
  simpa using h1
theorem Mid.keep {w wr : World} {g n cap : Nat} {X : Nat → Int} {p : Int → Bool} {j q : Nat} (h : Mid w wr g n cap X p j) (hp : p (X j) = false) :
    Mid w ((wr.drewN q).setCell ⟨g, (kept p X j).length, none⟩ (.int .i64 (X j))) g n cap X p (j + 1) := by
  obtain ⟨hc, F, hr, h1, h2⟩ := h
  have hle := kept_le p X j
  refine ⟨(hc.drewN q).setCell (p := ⟨g, (kept p X j).length, none⟩) (fun _ => rfl) _, _, World.rowIs.set (w := wr.drewN q) hr _ _, ?_, fun t a b => ?_⟩
  · rw [kept_succ, hp]
    intro t ht
    simp only [Bool.false_eq_true, if_false, List.length_append, List.length_cons, List.length_nil] at ht
    by_cases e : t = (kept p X j).length
    · subst e; simp
    · have : t < (kept p X j).length := by omega
      simp only [if_neg e, h1 t this, Bool.false_eq_true, if_false]
      rw [List.getD_eq_getElem?_getD, List.getD_eq_getElem?_getD, List.getElem?_append_left this]
  · rw [if_neg (by omega)]; exact h2 t (by omega) b

set_option maxHeartbeats 400000 in
theorem deleteFunc_any (g n cap : Nat) (X : Nat → Int) (p : Int → Bool) (q1 q2 q3 : Value) (w : World) (hn : n ≤ 300) (hncap : n ≤ cap)
    (F0 : Nat → Value) (hrow : w.rowIs g 3 cap F0) (hF0 : ∀ t, t < n → F0 t = .int .i64 (X t))
    (hdel : Hid (∀ w', Chg (fun b => b = g) w w' → ∀ t, t < n → Calls Yba.prog 22 #[.int .i64 (X t), q1, q2, q3] w' fun e w'' => e = .returned (.bool (p (X t))) ∧ ∃ n, w'' = w'.drewN n)) :
    Calls Yba.prog 21 #[.slice (some ⟨g, 0, none⟩) n cap, .func (.func 22) #[] #[q1, q2, q3]] w fun e w' =>
      e = .returned (.slice (some ⟨g, 0, none⟩) (kept p X n).length cap) ∧ Chg (fun b => b = g) w w' ∧ ∃ F, w'.rowIs g 3 cap F ∧ ∀ t, t < (kept p X n).length → F t = .int .i64 ((kept p X n).getD t 0) := by
  have H0 : Hid (∀ t, t < n → F0 t = .int .i64 (X t)) := hF0
  have HR : Hid (w.rowIs g 3 cap F0) := hrow
  clear hF0 hrow
  go_enter Yba.func21, Yba.ntmps21
  go_wp2_with fail
  refine (indexFunc_any g n cap X p q1 q2 q3 w hn ?_ ?_).mono ?_
  · exact fun t ht => by rw [← H0.out t ht]; exact HR.out.cell (by omega)
  · exact fun q t ht => (hdel.out (w.drewN q) ((Chg.refl _ _).drewN q) t ht).mono (fun e w' ⟨h1, m, h2⟩ => ⟨h1, q + m, by rw [h2, World.drewN_drewN]⟩)
  rintro e w1 ⟨r, rfl, ⟨q, rfl⟩, hr⟩
  rcases hr with ⟨rfl, hno⟩ | ⟨i, rfl, hi, hpi, hbe⟩
  · have HN : Hid (∀ t, t < n → p (X t) = false) := hno
    clear hno
    go_wp2
    go_ret
    have hk := kept_all p X n HN.out
    refine ⟨by rw [hk]; simp, (Chg.refl _ _).drewN q, F0, HR.out, fun t ht => ?_⟩
    rw [hk] at ht ⊢
    simp at ht
    simp [ht, H0.out t ht]
  · have HI : Hid (p (X i) = true ∧ ∀ t, t < i → p (X t) = false) := ⟨hpi, hbe⟩
    clear hpi hbe
    have hne : ((i : Int) == -1) = false := by rw [beq_eq_false_iff_ne]; omega
    go_wp2_with fail
    clear hne
    go_loopw [5, 6] (fun v5 v6 wr => ∃ j : Nat, j ≤ n ∧ i < j ∧ v6 = .int .i64 j ∧ v5 = .int .i64 (kept p X j).length ∧ (kept p X j).length < j ∧ Hid (Mid w wr g n cap X p j)) (fun _ v6 _ => n - (intOf v6).toNat)
    case atStart =>
      have e1 : kept p X (i + 1) = (List.range i).map X := by rw [kept_succ, HI.out.1, kept_all p X i HI.out.2]; simp
      refine ⟨i + 1, by omega, by omega, by go_num, by rw [e1]; simp, by rw [e1]; simp, (Chg.refl _ _).drewN q, F0, HR.out, fun t ht => ?_, fun t _ ht => H0.out t ht⟩
      rw [e1] at ht ⊢
      simp at ht
      rw [H0.out t (by omega)]
      simp [ht]
    case round =>
      obtain ⟨j, hj, hij, rfl, rfl, hlj, HM⟩ := hrel
      obtain ⟨L, hL⟩ : ∃ L, (kept p X j).length = L := ⟨_, rfl⟩
      rw [hL] at hlj ⊢
      have HL : Hid ((kept p X j).length = L) := hL
      clear hL
      by_cases hlt : j < n
      · have hcell : wr.cell? ⟨g, j, none⟩ = some (.int .i64 (X j)) := by
          obtain ⟨_, F, hr, _, h2⟩ := HM.out
          rw [← h2 j (Nat.le_refl _) hlt]; exact hr.cell (by omega)
        have hcell2 : ∃ v, wr.cell? ⟨g, L, none⟩ = some v := by
          obtain ⟨_, F, hr, _, h2⟩ := HM.out
          exact ⟨_, hr.cell (by omega)⟩
        obtain ⟨vL, hcell2⟩ := hcell2
        have hfz : wr.frozen? ⟨g, L, none⟩ = false := by
          obtain ⟨_, F, hr, _, h2⟩ := HM.out
          exact hr.frozen _
        obtain ⟨b, hb⟩ : ∃ b, p (X j) = b := ⟨_, rfl⟩
        have HB : Hid (p (X j) = b) := hb
        have hdl := hdel.out wr HM.out.1 j hlt
        rw [hb] at hdl
        have HD := (show Hid _ from hdl)
        clear hdl hb
        cases b
        · go_wp2_with (go_at_call 22; refine Calls.mono HD.out ?_; rintro e w' ⟨rfl, q', rfl⟩)
          go_roundw
          case rel => exact ⟨j + 1, by omega, by omega, by go_num, by rw [kept_succ, HB.out]; simp; have := HL.out; omega, by rw [kept_succ, HB.out]; simp; have := HL.out; omega, by have := HM.out.keep (q := q') HB.out; rw [HL.out] at this; exact this⟩
          case measure => simp [intOf]; omega
        · go_wp2_with (go_at_call 22; refine Calls.mono HD.out ?_; rintro e w' ⟨rfl, q', rfl⟩)
          go_roundw
          case rel => exact ⟨j + 1, by omega, by omega, by go_num, by rw [kept_succ, HB.out, ← HL.out]; simp, by rw [kept_succ, HB.out]; simp; have := HL.out; omega, HM.out.skip HB.out⟩
          case measure => simp [intOf]; omega
      · have hcl : ∀ ty, (Builtin.clear_ #[33] ty #[.slice (some ⟨g, L, none⟩) (n - L) (cap - L)]).run Yba.prog wr = .ok (.tuple #[]) (wr.setCells g L (List.replicate (n - L) (.int .i64 0))) := by
          obtain ⟨_, F, hr, _, h2⟩ := HM.out
          exact fun ty => Lib.run_clear_slice wr 33 3 ty (.int .i64 0) Yba.underlying33 zero3 rfl rfl g L (n - L) (cap - L) (by omega) (fun t ht => by rw [hr.cell (by omega)]; rfl) (fun t ht => hr.frozen _)
        have ncap : ¬ cap = L := by omega
        go_wp2
        go_ret
        have hjn : j = n := by omega
        subst hjn
        obtain ⟨hchg, F, hr, h1, h2⟩ := HM.out
        have hl := HL.out
        refine ⟨by rw [hl]; rfl, chg_setCells _ _ hchg (fun _ => rfl), _, rowIs_setCells _ L hr, fun t ht => ?_⟩
        rw [if_neg (by omega)]
        exact h1 t ht
end Go.Proofs.Ybulkcqyu
