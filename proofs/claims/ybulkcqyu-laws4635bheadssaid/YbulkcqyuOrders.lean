/-
  A region that draws its order and whose LAST operation (number z) writes a cell that the region has read: after the library's 'wpAnyH' (Derived/OrdersHeld.lean), in whose make it is: the condition A holds behind every operation, the condition B until number z has come up. 'wpAny_inv': an invariant over all orders.
-/
import Derived.OrdersHeld
import Derived.Deep.RegionHeld
namespace Go.Proofs.Ybulkcqyu
set_option linter.unusedVariables false
set_option linter.unusedSimpArgs false

section
variable {P : Program} {ops : Array Oper} {Q : Exit → Act → World → Prop} {md : Region.Mode} {A B : World → Prop} {z : Nat}

/-- Whatever order is picked from here on; A holds behind every operation, B behind every one until z has come up. -/
def wpAnyZ (P : Program) (md : Region.Mode) (ops : Array Oper) (Q : Exit → Act → World → Prop) (A B : World → Prop) (z : Nat) : Nat → Array Bool → Act → World → Prop
  | 0, listed, a, w => Region.ready md ops listed = [] ∧ Q .normal a w
  | fuel + 1, listed, a, w =>
    (Region.ready md ops listed = [] → Q .normal a w) ∧
    ∀ i ∈ Region.ready md ops listed, wpOp P ops Q i (fun a' w' => (A w' ∧ (i ≠ z → B w')) ∧ wpAnyZ P md ops Q A B z fuel (listed.setIfInBounds i true) a' w') a w

theorem wpAny_of_Z : ∀ (fuel : Nat) (listed : Array Bool) (a : Act) (w : World), wpAnyZ P md ops Q A B z fuel listed a w → wpAny P md ops Q fuel listed a w
  | 0, _, _, _, h => h
  | fuel + 1, _, _, _, h => ⟨h.1, fun i hi => wpOp_mono (fun a' w' h' => wpAny_of_Z fuel _ a' w' h'.2) (h.2 i hi)⟩

/-- Does number z wait for number i? -/
def waitsFor (md : Region.Mode) (ops : Array Oper) (z i : Nat) : Bool := ((ops[z]?).map (·.after.any fun e => Region.binds md e && e.on == i)).getD false

theorem ready_waits {listed : Array Bool} {i j : Nat} (hw : waitsFor md ops z i = true) (hi : listed.getD i true = false) (hj : j ∈ Region.ready md ops listed) : j ≠ z := by
  intro e
  subst e
  obtain ⟨_, o, ho, hall⟩ := mem_ready.1 hj
  unfold waitsFor at hw
  rw [ho] at hw
  simp only [Option.map_some, Option.getD_some] at hw
  obtain ⟨e, he, hb⟩ := Array.any_eq_true'.1 hw
  simp only [Bool.and_eq_true, beq_iff_eq] at hb
  have h1 := hall e he hb.1
  rw [hb.2] at h1
  rcases Nat.lt_or_ge i listed.size with h' | h'
  · simp [h'] at hi h1; rw [hi] at h1; cases h1
  · simp [Array.getElem?_eq_none h'] at h1

theorem wpAnyZ_first {i : Nat} {oi : Oper} {v : Value} (hi : ops[i]? = some oi) (hsel : ∀ (j : Nat) (o : Oper) cs b, ops[j]? = some o → o.op ≠ .select cs b)
    (hQ : ∀ c a w, Q (.panic c) (a.put oi.dst v) w → Q (.panic c) a w) (hz : waitsFor md ops z i = true) :
    ∀ (fuel : Nat) (listed : Array Bool) (a : Act) (w : World),
      (∀ j oj, ops[j]? = some oj → j ≠ i → listed.getD j true = false → (∀ e ∈ oj.after, Region.binds md e = true → e.on ≠ i) → oi.apart ops oj = true) →
      i ∈ Region.ready md ops listed → YieldsIf P ops (fun w => A w ∧ B w) oi v a → A w ∧ B w →
      wpAnyZ P md ops Q A B z fuel (listed.setIfInBounds i true) (a.put oi.dst v) w → wpAnyZ P md ops Q A B z (fuel + 1) listed a w := by
  intro fuel
  induction fuel with
  | zero =>
    intro listed a w _ hr hy hS H
    refine ⟨fun h => (by rw [h] at hr; cases hr), fun j hj => ?_⟩
    by_cases hji : j = i
    · subst hji; exact hy.wpOp hi hS ⟨⟨hS.1, fun _ => hS.2⟩, H⟩
    · have := ready_mono hj hji
      rw [H.1] at this
      cases this
  | succ fuel ih =>
    intro listed a w hfree hr hy hS H
    refine ⟨fun h => (by rw [h] at hr; cases hr), fun j hj => ?_⟩
    have hjz : j ≠ z := ready_waits hz (mem_ready.1 hr).1 hj
    by_cases hji : j = i
    · subst hji; exact hy.wpOp hi hS ⟨⟨hS.1, fun _ => hS.2⟩, H⟩
    · have h1 := H.2 j (ready_mono hj hji)
      obtain ⟨hjun, oj, hoj, hall⟩ := mem_ready.1 hj
      have hnot : ∀ e ∈ oj.after, Region.binds md e = true → e.on ≠ i := fun e he hb heq => by
        have h1 := hall e he hb
        have h0 := (mem_ready.1 hr).1
        rw [heq] at h1
        rcases Nat.lt_or_ge i listed.size with h' | h'
        · simp [h'] at h0 h1; rw [h0] at h1; cases h1
        · simp [Array.getElem?_eq_none h'] at h1
      have h2 := wpOp_putIf hoj (hfree j oj hoj hji hjun hnot) (fun cs b => hsel i oi cs b hi) (fun cs b => hsel j oj cs b hoj) hQ hy h1
      have hfree' : ∀ k ok, ops[k]? = some ok → k ≠ i → (listed.setIfInBounds j true).getD k true = false →
          (∀ e ∈ ok.after, Region.binds md e = true → e.on ≠ i) → oi.apart ops ok = true := fun k ok hk hki hun hno => by
        refine hfree k ok hk hki ?_ hno
        by_cases hjk : j = k
        · subst hjk; exact hjun
        · rw [getD_set_ne true hjk] at hun; exact hun
      refine wpOp_mono (fun a' w' h3 => ⟨h3.2.1, ih (listed.setIfInBounds j true) a' w' hfree' (ready_mono hr (Ne.symm hji)) h3.1 ⟨h3.2.1.1, h3.2.1.2 hjz⟩ ?_⟩) h2
      rw [Array.setIfInBounds_comm _ _ hji]
      exact h3.2.2

/-- Take number i first. -/
theorem wpAnyZ_take {i : Nat} {oi : Oper} {v : Value} {fuel : Nat} {listed : Array Bool} {a : Act} {w : World} (hi : ops[i]? = some oi)
    (hs : Region.noSelect ops = true) (hf : Region.free md ops listed i = true) (hr : (Region.ready md ops listed).contains i = true) (hz : waitsFor md ops z i = true)
    (hQ : ∀ c a w, Q (.panic c) (a.put oi.dst v) w → Q (.panic c) a w) (hw : Region.wanted oi (yielded ops a.tmps) = true) (hy : ∀ w, A w ∧ B w → (execOp a.eval oi).run P w = .ok (.value v) w) (hS : A w ∧ B w)
    (h : wpAnyZ P md ops Q A B z fuel (listed.setIfInBounds i true) (a.put oi.dst v) w) : wpAnyZ P md ops Q A B z (fuel + 1) listed a w :=
  wpAnyZ_first hi (Region.noSelect_spec hs) hQ hz fuel listed a w (Region.free_spec hi hf) (by simpa using hr) (Or.inl ⟨hw, hy⟩) hS h

/-- One operation alone may come up. -/
theorem wpAnyZ_one {i : Nat} {o : Oper} {fuel : Nat} {listed : Array Bool} {a : Act} {w : World} (hr : Region.ready md ops listed = [i]) (ho : ops[i]? = some o)
    (h : ∀ K' : Act → World → Prop, Shut (∀ a w, A w → (i ≠ z → B w) → wpAnyZ P md ops Q A B z fuel (listed.setIfInBounds i true) a w → K' a w) → if Region.wanted o (yielded ops a.tmps) = true then Oper.wp P o a w K' Q else K' (a.put o.dst undef) w) :
    wpAnyZ P md ops Q A B z (fuel + 1) listed a w :=
  ⟨fun h0 => (by rw [hr] at h0; cases h0), fun j hj => by
    rw [hr] at hj
    obtain rfl : j = i := by simpa using hj
    exact wpOp_step ho (fun K' hK => h K' (fun a w hA hB hW => hK a w ⟨⟨hA, hB⟩, hW⟩))⟩

/-- All have come up. -/
theorem wpAnyZ_done {listed : Array Bool} {a : Act} {w : World} (hr : Region.ready md ops listed = []) (h : Q .normal a w) : ∀ fuel, wpAnyZ P md ops Q A B z fuel listed a w
  | 0 => ⟨hr, h⟩
  | _ + 1 => ⟨fun _ => h, by rw [hr]; simp⟩

theorem wp_region_Z {id : Nat} {a : Act} {w : World} (hm : P.follows .mixedOrders = true)
    (h : wpAnyZ P .any ops Q A B z ops.size (Array.replicate ops.size false) a w.drew) : (Code.region id ops true).wp P Q a w :=
  wp_region_any hm (wpAny_of_Z _ _ _ _ h)
end
end Go.Proofs.Ybulkcqyu
