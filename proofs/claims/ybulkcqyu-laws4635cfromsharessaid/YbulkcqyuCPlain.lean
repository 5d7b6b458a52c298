/-
  What one set does to a tree, plain: own, the leaf, the node.
-/
import Derived.Test.YbulkcqyuCTree
namespace Go.Proofs.Ybulkcqyu
set_option linter.unusedVariables false
set_option linter.unusedSimpArgs false

def upd (nd : Nat → Nat → Nat) (i j v : Nat) : Nat → Nat → Nat := fun i' j' => if i' = i ∧ j' = j then v else nd i' j'
theorem upd_at (nd : Nat → Nat → Nat) (i j v : Nat) : upd nd i j v i j = v := if_pos ⟨rfl, rfl⟩
theorem upd_ne {nd : Nat → Nat → Nat} {i j v i' j' : Nat} (h : i' ≠ i ∨ j' ≠ j) : upd nd i j v i' j' = nd i' j' := if_neg (fun ⟨a, b⟩ => by rcases h with h | h; exact h a; exact h b)

structure OwnP (nd : Nat → Nat → Nat) (N fx : Nat) (pos : Nat → Nat × Nat) (nd2 : Nat → Nat → Nat) (N2 : Nat) (pos2 : Nat → Nat × Nat) (h p e m : Nat) : Prop where
  le : N ≤ N2
  le1 : N2 ≤ N + 1
  same : ∀ i, i < N → ∀ j, nd2 i j = nd i j
  posn : ∀ i, i < N → pos2 i = pos i
  new : fx ≤ m
  lt : m < N2
  at_ : pos2 m = (h, p)
  copy : ∀ j, j < 4 → nd2 m j = nd e j

theorem OwnP.keep {nd : Nat → Nat → Nat} {N fx : Nat} {pos : Nat → Nat × Nat} {h p e : Nat} (t : Tree nd N fx pos h p e) (hf : fx ≤ e) : OwnP nd N fx pos nd N pos h p e e :=
  ⟨Nat.le_refl _, Nat.le_succ _, fun _ _ _ => rfl, fun _ _ => rfl, hf, t.lt, t.at hf, fun _ _ => rfl⟩
theorem OwnP.made {nd nd2 : Nat → Nat → Nat} {N fx : Nat} {pos : Nat → Nat × Nat} (h p : Nat) {e : Nat} (hf : fx ≤ N) (same : ∀ i, i < N → ∀ j, nd2 i j = nd i j) (copy : ∀ j, j < 4 → nd2 N j = nd e j) : OwnP nd N fx pos nd2 (N + 1) (fun i => if i = N then (h, p) else pos i) h p e N :=
  ⟨Nat.le_succ _, Nat.le_refl _, same, fun i hi => if_neg (by omega), hf, Nat.lt_succ_self _, if_pos rfl, copy⟩

open Classical in
structure SetP (nd : Nat → Nat → Nat) (N fx : Nat) (pos : Nat → Nat × Nat) (nd' : Nat → Nat → Nat) (N' : Nat) (pos' : Nat → Nat × Nat) (h c n place r : Nat) : Prop where
  le : N ≤ N'
  le1 : N' ≤ N + h + 1
  same : ∀ i, i < N → (i < fx ∨ ∀ k, k ≤ h → pos i ≠ (k, c / 4 ^ (k + 1))) → ∀ j, nd' i j = nd i j
  posn : ∀ i, i < N → pos' i = pos i
  tree : Tree nd' N' fx pos' h (c / 4 ^ (h + 1)) r
  read : ∀ x, rd nd' h r x = if Same h x c then place else rd nd h n x

theorem same0 (x c : Nat) : Same 0 x c ↔ dig x 0 = dig c 0 := ⟨fun h => h 0 (Nat.le_refl _), fun h k hk => by rw [show k = 0 by omega]; exact h⟩
theorem same_succ (h x c : Nat) : Same (h + 1) x c ↔ dig x (h + 1) = dig c (h + 1) ∧ Same h x c := ⟨fun s => ⟨s _ (Nat.le_refl _), fun k hk => s k (by omega)⟩, fun ⟨a, s⟩ k hk => by
  by_cases e : k = h + 1
  · rw [e]; exact a
  · exact s k (by omega)⟩

/-- the leaf -/
theorem SetP.leaf {nd nd2 : Nat → Nat → Nat} {N fx N2 : Nat} {pos pos2 : Nat → Nat × Nat} {c e m : Nat} (place : Nat) (t : Tree nd N fx pos 0 (c / 4 ^ 1) e) (o : OwnP nd N fx pos nd2 N2 pos2 0 (c / 4 ^ 1) e m) :
    SetP nd N fx pos (upd nd2 m (dig c 0) place) N2 pos2 0 c e place m := by
  refine ⟨o.le, by have := o.le1; omega, fun i hi hp j => ?_, o.posn, ⟨o.lt, fun _ => o.at_⟩, fun x => ?_⟩
  · have hne : i ≠ m := by
      intro he
      rcases hp with hp | hp
      · have := o.new; omega
      · apply hp 0 (Nat.le_refl _); rw [← o.posn i hi, he]; exact o.at_
    rw [upd_ne (.inl hne), o.same i hi]
  · show upd nd2 m (dig c 0) place m (dig x 0) = _
    by_cases s : Same 0 x c
    · rw [if_pos s, s 0 (Nat.le_refl _), upd_at]
    · rw [if_neg s, upd_ne (.inr (fun e => s ((same0 x c).2 e))), o.copy _ (dig_lt _ _)]; rfl

/-- the child's tree behind own -/
theorem OwnP.child {nd nd2 : Nat → Nat → Nat} {N fx N2 : Nat} {pos pos2 : Nat → Nat × Nat} {h c e m : Nat} (z : Zero nd) (hfx : 0 < fx) (hN : fx ≤ N) (t : Tree nd N fx pos (h + 1) (c / 4 ^ (h + 1 + 1)) e) (o : OwnP nd N fx pos nd2 N2 pos2 (h + 1) (c / 4 ^ (h + 1 + 1)) e m) {j : Nat} (hj : j < 4) :
    Tree nd2 N2 fx pos2 h (c / 4 ^ (h + 1 + 1) * 4 + j) (nd e j) ∧ ∀ x, rd nd2 h (nd e j) x = rd nd h (nd e j) x :=
  Tree.move (fun _ _ => True) (fun _ _ _ _ _ => trivial) hfx hN o.le (fun i hi _ => ⟨fun j _ => o.same i hi j, o.posn i hi⟩) trivial (t.kid' z hfx hN hj)
theorem OwnP.zero {nd nd2 : Nat → Nat → Nat} {N fx N2 : Nat} {pos pos2 : Nat → Nat × Nat} {h p e m : Nat} (z : Zero nd) (hN : 0 < N) (o : OwnP nd N fx pos nd2 N2 pos2 h p e m) : Zero nd2 := fun j => by rw [o.same 0 hN]; exact z j
theorem SetP.zero {nd nd' : Nat → Nat → Nat} {N fx N' : Nat} {pos pos' : Nat → Nat × Nat} {h c n place r : Nat} (z : Zero nd) (hfx : 0 < fx) (hN : fx ≤ N) (s : SetP nd N fx pos nd' N' pos' h c n place r) : Zero nd' := fun j => by rw [s.same 0 (by omega) (.inl hfx)]; exact z j
/-- the node -/
theorem SetP.node {nd nd2 nd3 : Nat → Nat → Nat} {N fx N2 N3 : Nat} {pos pos2 pos3 : Nat → Nat × Nat} {h c e m place kid : Nat} (z : Zero nd) (hfx : 0 < fx) (hN : fx ≤ N) (t : Tree nd N fx pos (h + 1) (c / 4 ^ (h + 1 + 1)) e) (o : OwnP nd N fx pos nd2 N2 pos2 (h + 1) (c / 4 ^ (h + 1 + 1)) e m)
    (s : SetP nd2 N2 fx pos2 nd3 N3 pos3 h c (nd e (dig c (h + 1))) place kid) : SetP nd N fx pos (upd nd3 m (dig c (h + 1)) kid) N3 pos3 (h + 1) c e place m := by
  have hm1 := o.new
  have hm2 := o.lt
  have o1 := o.le
  have o2 := o.le1
  have s1 := s.le
  have s2 := s.le1
  have z2 := o.zero z (by omega)
  have z3 := s.zero z2 hfx (by omega)
  have hmne : ∀ k, k ≤ h → pos2 m ≠ (k, c / 4 ^ (k + 1)) := fun k hk => by
    rw [o.at_]; intro e; simp only [Prod.mk.injEq] at e; omega
  -- node m behind the child's set
  have hm3 : ∀ j, j < 4 → nd3 m j = nd e j := fun j hj => by rw [s.same m hm2 (.inr hmne), o.copy j hj]
  have hp3 : pos3 m = (h + 1, c / 4 ^ (h + 1 + 1)) := by rw [s.posn m hm2]; exact o.at_
  have hz4 : Zero (upd nd3 m (dig c (h + 1)) kid) := fun j => by rw [upd_ne (.inl (by omega))]; exact z3 j
  -- the kid's tree
  have tk : Tree (upd nd3 m (dig c (h + 1)) kid) N3 fx pos3 h (c / 4 ^ (h + 1)) kid ∧ ∀ x, rd (upd nd3 m (dig c (h + 1)) kid) h kid x = rd nd3 h kid x := by
    refine Tree.move (fun h' _ => h' ≤ h) (fun _ _ _ _ q => by omega) hfx (by omega) (Nat.le_refl _) (fun i hi hq => ⟨fun j _ => upd_ne (.inl ?_), rfl⟩) (Nat.le_refl _) s.tree
    intro he
    rcases hq with hq | ⟨h', p', hq, hp⟩
    · omega
    · rw [he, hp3] at hp; simp only [Prod.mk.injEq] at hp; omega
  -- the others
  have tj : ∀ j, j < 4 → j ≠ dig c (h + 1) → Tree (upd nd3 m (dig c (h + 1)) kid) N3 fx pos3 h (c / 4 ^ (h + 1 + 1) * 4 + j) (nd e j) ∧ ∀ x, rd (upd nd3 m (dig c (h + 1)) kid) h (nd e j) x = rd nd h (nd e j) x := by
    intro j hj hne
    obtain ⟨c1, c2⟩ := o.child z hfx hN t hj
    have := Tree.move (nd' := upd nd3 m (dig c (h + 1)) kid) (N' := N3) (pos' := pos3) (fun h' p' => h' ≤ h ∧ p' ≠ c / 4 ^ (h' + 1)) (fun h' p' j hj q => ⟨by omega, path_not c h' p' j hj q.2⟩) hfx (by omega) s1 (fun i hi hq => ?_) ⟨Nat.le_refl _, path_not' c h j hj hne⟩ c1
    · exact ⟨this.1, fun x => by rw [this.2 x, c2 x]⟩
    · refine ⟨fun j _ => ?_, s.posn i hi⟩
      have hne : i ≠ m := by
        intro he
        rcases hq with hq | ⟨h', p', hq, hp⟩
        · omega
        · rw [he, o.at_] at hp; simp only [Prod.mk.injEq] at hp; omega
      rw [upd_ne (.inl hne)]
      refine s.same i hi ?_ j
      rcases hq with hq | ⟨h', p', hq, hp⟩
      · exact .inl hq
      · refine .inr (fun k hk => ?_)
        rw [hp]
        intro he
        simp only [Prod.mk.injEq] at he
        obtain ⟨e1, e2⟩ := he
        subst e1
        exact hq.2 e2
  refine ⟨by omega, by omega, fun i hi hp j => ?_, fun i hi => by rw [s.posn i (by omega), o.posn i hi], ⟨by omega, fun _ => hp3, fun _ j hj => ?_⟩, fun x => ?_⟩
  · have hne : i ≠ m := by
      intro he
      rcases hp with hp | hp
      · omega
      · apply hp (h + 1) (Nat.le_refl _); rw [← o.posn i hi, he]; exact o.at_
    rw [upd_ne (.inl hne), s.same i (by omega) (by
      rcases hp with hp | hp
      · exact .inl hp
      · exact .inr (fun k hk => by rw [o.posn i hi]; exact hp k (by omega))), o.same i hi]
  · by_cases hd : j = dig c (h + 1)
    · subst hd; rw [upd_at, path_kid]; exact tk.1
    · rw [upd_ne (.inr hd), hm3 j hj]; exact (tj j hj hd).1
  · rw [rd_succ hz4, rd_succ z]
    by_cases hd : dig x (h + 1) = dig c (h + 1)
    · rw [hd, upd_at, tk.2 x, s.read x]
      by_cases hs : Same h x c
      · rw [if_pos hs, if_pos ((same_succ h x c).2 ⟨hd, hs⟩)]
      · rw [if_neg hs, if_neg (fun h' => hs ((same_succ h x c).1 h').2), (o.child z hfx hN t (dig_lt _ _)).2 x]
    · rw [upd_ne (.inr hd), hm3 _ (dig_lt _ _), (tj _ (dig_lt _ _) hd).2 x, if_neg (fun h' => hd ((same_succ h x c).1 h').1)]
/-- nothing to do -/
theorem SetP.none {nd : Nat → Nat → Nat} {N fx : Nat} {pos : Nat → Nat × Nat} {h c n : Nat} (z : Zero nd) (t : Tree nd N fx pos h (c / 4 ^ (h + 1)) n) (place : Nat) (hp : rd nd h n c = place) : SetP nd N fx pos nd N pos h c n place n :=
  ⟨Nat.le_refl _, by omega, fun _ _ _ _ => rfl, fun _ _ => rfl, t, fun x => by
    by_cases s : Same h x c
    · rw [if_pos s, rd_same z h n s, hp]
    · rw [if_neg s]⟩
end Go.Proofs.Ybulkcqyu
