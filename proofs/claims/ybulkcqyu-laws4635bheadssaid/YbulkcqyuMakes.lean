/-
  Several makes in one region that draws its order: in whatever order they come up, each lays a block of its own.
-/
import Derived.Test.YbulkcqyuOrders
import Derived.Test.YbulkcqyuHeap
namespace Go.Proofs.Ybulkcqyu
set_option linter.unusedVariables false
set_option linter.unusedSimpArgs false
open Go.Deep

def upd {α : Type} (f : Nat → α) (i : Nat) (v : α) : Nat → α := fun j => if j = i then v else f j

def allB (f : Bool → Bool) : Bool := f true && f false
theorem allB_spec {f : Bool → Bool} (h : allB f = true) (b : Bool) : f b = true := by
  simp only [allB, Bool.and_eq_true] at h
  cases b
  · exact h.2
  · exact h.1

theorem filter_upd (d : Nat → Bool) (i : Nat) : ∀ (M : List Nat), M.Nodup → i ∈ M → d i = false → (M.filter (fun k => !d k)).length = (M.filter (fun k => !(upd d i true) k)).length + 1
  | [], _, h, _ => by cases h
  | x :: xs, hn, h, hd => by
    have hn' := List.nodup_cons.1 hn
    by_cases e : x = i
    · subst e
      have : xs.filter (fun k => !(upd d x true) k) = xs.filter (fun k => !d k) := by
        apply List.filter_congr
        intro k hk
        have : k ≠ x := fun e => hn'.1 (e ▸ hk)
        simp [upd, this]
      rw [List.filter_cons_of_pos (by simp [hd]), List.filter_cons_of_neg (by simp [upd]), this]
      simp
    · have hi : i ∈ xs := by rcases List.mem_cons.1 h with h | h; exact absurd h.symm e; exact h
      have ih := filter_upd d i xs hn'.2 hi hd
      have hx : (upd d i true) x = d x := by simp [upd, e]
      cases hdx : d x
      · rw [List.filter_cons_of_pos (by simp [hdx]), List.filter_cons_of_pos (by simp [hx, hdx])]
        simp only [List.length_cons, ih]
      · rw [List.filter_cons_of_neg (by simp [hdx]), List.filter_cons_of_neg (by simp [hx, hdx])]
        exact ih

/-- what has been made so far -/
structure Made (w0 w : World) (M : List Nat) (d : Nat → Bool) (s : Nat → Value) (blk : Nat → Nat) (obj : Nat → Obj) (n : Nat → Nat) : Prop where
  chg : Chg (fun _ => False) w0 w
  val : ∀ i, i ∈ M → d i = true → s i = .slice (some ⟨blk i, 0, none⟩) (n i) (n i) ∧ w0.heap.size ≤ blk i ∧ w.heap[blk i]? = some (obj i)
  apart : ∀ i i', i ∈ M → i' ∈ M → d i = true → d i' = true → i ≠ i' → blk i ≠ blk i'

theorem Made.step {w0 w : World} {M : List Nat} {d : Nat → Bool} {s : Nat → Value} {blk : Nat → Nat} {obj : Nat → Obj} {n : Nat → Nat} (h : Made w0 w M d s blk obj n) (i : Nat) (hd : d i = false) :
    Made w0 (w.alloc (obj i)) M (upd d i true) (upd s i (.slice (some ⟨w.heap.size, 0, none⟩) (n i) (n i))) (upd blk i w.heap.size) obj n := by
  have old : ∀ k, k ∈ M → d k = true → blk k < w.heap.size := fun k hk hdk => (Array.getElem?_eq_some_iff.1 (h.val k hk hdk).2.2).1
  refine ⟨h.chg.alloc _, fun k hk hdk => ?_, fun k k' hk hk' hdk hdk' ne => ?_⟩
  · by_cases e : k = i
    · subst e
      refine ⟨by simp [upd], ?_, ?_⟩
      · simp only [upd, if_true]; exact h.chg.size
      · simp only [upd, if_true]; exact blk_alloc_new _ _
    · simp only [upd, if_neg e] at hdk ⊢
      obtain ⟨h1, h2, h3⟩ := h.val k hk hdk
      exact ⟨h1, h2, by rw [blk_alloc_lt _ _ _ (old k hk hdk)]; exact h3⟩
  · by_cases e : k = i
    · subst e
      have e' : ¬ k' = k := fun h => ne h.symm
      simp only [upd, if_neg e', if_true] at hdk' ⊢
      exact (Nat.ne_of_gt (old k' hk' hdk'))
    · simp only [upd, if_neg e] at hdk ⊢
      by_cases e' : k' = i
      · simp only [if_pos e']; exact Nat.ne_of_lt (old k hk hdk)
      · simp only [upd, if_neg e'] at hdk' ⊢
        exact h.apart k k' hk hk' hdk hdk' ne

theorem makes {P : Program} {ops : Array Oper} {Q : Exit → Act → World → Prop} {md : Region.Mode} {S : World → Prop} (M : List Nat) (hM : M.Nodup) (L : (Nat → Bool) → Array Bool) (A : (Nat → Value) → Act) (obj : Nat → Obj) (n : Nat → Nat) (w0 : World) (fuel0 : Nat)
    (hready : ∀ d, (∃ i, i ∈ M ∧ d i = false) → Region.ready md ops (L d) ≠ [] ∧ ∀ i ∈ Region.ready md ops (L d), i ∈ M ∧ d i = false)
    (hset : ∀ d i, i ∈ M → (L d).setIfInBounds i true = L (upd d i true)) (hall : ∀ d, (∀ i, i ∈ M → d i = true) → L d = L (fun _ => true))
    (hop : ∀ i, i ∈ M → ∃ o, ops[i]? = some o ∧ o.guard = none ∧ ∀ s, (∀ w, S w → (execOp (A s).eval o).run P w = .ok (.value (.slice (some ⟨w.heap.size, 0, none⟩) (n i) (n i))) (w.alloc (obj i))) ∧ ∀ v, (A s).put o.dst v = A (upd s i v))
    (hS : ∀ w o, S w → S (w.alloc o))
    (hfin : ∀ s w blk, Made w0 w M (fun _ => true) s blk obj n → S w → wpAnyH P md ops Q S fuel0 (L (fun _ => true)) (A s) w) :
    ∀ c d s w blk, (M.filter (fun k => !d k)).length = c → Made w0 w M d s blk obj n → S w → wpAnyH P md ops Q S (c + fuel0) (L d) (A s) w := by
  intro c
  induction c with
  | zero =>
    intro d s w blk hc hm hs
    have hd : ∀ i, i ∈ M → d i = true := by
      intro i hi
      have h0 := List.eq_nil_of_length_eq_zero hc
      have := (List.filter_eq_nil_iff.1 h0) i hi
      simpa using this
    rw [hall d hd, Nat.zero_add]
    exact hfin s w blk ⟨hm.chg, fun i hi _ => hm.val i hi (hd i hi), fun i i' hi hi' _ _ ne => hm.apart i i' hi hi' (hd i hi) (hd i' hi') ne⟩ hs
  | succ c ih =>
    intro d s w blk hc hm hs
    have hex : ∃ i, i ∈ M ∧ d i = false := by
      have : (M.filter (fun k => !d k)) ≠ [] := fun h => by rw [h] at hc; cases hc
      obtain ⟨i, hi⟩ := List.exists_mem_of_ne_nil _ this
      have := List.mem_filter.1 hi
      exact ⟨i, this.1, by simpa using this.2⟩
    obtain ⟨h1, h2⟩ := hready d hex
    rw [show c + 1 + fuel0 = (c + fuel0) + 1 by omega]
    refine ⟨fun h => absurd h h1, fun i hi => ?_⟩
    obtain ⟨hiM, hid⟩ := h2 i hi
    obtain ⟨o, ho, hg, hrun⟩ := hop i hiM
    obtain ⟨hr, hp⟩ := hrun s
    unfold wpOp
    simp only [ho]
    rw [if_pos (by simp [Region.wanted, hg])]
    refine .inl ?_
    unfold Oper.wp
    rw [hr w hs]
    show _ ∧ _
    refine ⟨hS _ _ hs, ?_⟩
    rw [hset d i hiM, hp]
    refine ih _ _ _ _ ?_ (hm.step i hid) (hS _ _ hs)
    have := filter_upd d i M hM hiM hid
    omega
end Go.Proofs.Ybulkcqyu
