/-
  The clock's tree, plain: what a tree reads (rd), that it is whole (Wf), who owns its new nodes (Tree), and what a set does to it. No Go here but the store's predicate.
-/
import Derived.Test.YbulkcqyuCMake
namespace Go.Proofs.Ybulkcqyu
set_option linter.unusedVariables false
set_option linter.unusedSimpArgs false

/-- chain c's digit at a level -/
def dig (c h : Nat) : Nat := c / 4 ^ h % 4
theorem dig_lt (c h : Nat) : dig c h < 4 := Nat.mod_lt _ (by omega)
/-- what node n, h levels above the leaves, holds for chain c -/
def rd (nd : Nat → Nat → Nat) : Nat → Nat → Nat → Nat
  | 0, n, c => nd n (dig c 0)
  | h + 1, n, c => if n = 0 then nd 0 (dig c 0) else rd nd h (nd n (dig c (h + 1))) c
/-- all nodes of the tree lie below B -/
def Wf (nd : Nat → Nat → Nat) (B : Nat) : Nat → Nat → Prop
  | 0, n => n < B
  | h + 1, n => n < B ∧ (n ≠ 0 → ∀ j, j < 4 → Wf nd B h (nd n j))
/-- .. and the new ones (from fx on) lie each at one place of the tree -/
def Tree (nd : Nat → Nat → Nat) (N fx : Nat) (pos : Nat → Nat × Nat) : Nat → Nat → Nat → Prop
  | 0, p, n => n < N ∧ (fx ≤ n → pos n = (0, p))
  | h + 1, p, n => n < N ∧ (fx ≤ n → pos n = (h + 1, p)) ∧ (n ≠ 0 → ∀ j, j < 4 → Tree nd N fx pos h (p * 4 + j) (nd n j))
/-- k levels down on the way to c -/
def down (nd : Nat → Nat → Nat) (c : Nat) : Nat → Nat → Nat → Nat
  | 0, h, n => n
  | k + 1, h, n => if n = 0 then 0 else down nd c k (h - 1) (nd n (dig c h))
/-- nodeAt -/
def na (nd : Nat → Nat → Nat) (rf hf c h : Nat) : Nat := if hf < h then 0 else if 4 ^ (hf + 1) ≤ c then 0 else down nd c (hf - h) hf rf

theorem Wf.lt {nd : Nat → Nat → Nat} {B h n : Nat} (w : Wf nd B h n) : n < B := by
  cases h with
  | zero => exact w
  | succ h => exact w.1
theorem Wf.kid {nd : Nat → Nat → Nat} {B h n : Nat} (w : Wf nd B (h + 1) n) (hn : n ≠ 0) {j : Nat} (hj : j < 4) : Wf nd B h (nd n j) := w.2 hn j hj
theorem Tree.lt {nd : Nat → Nat → Nat} {N fx : Nat} {pos : Nat → Nat × Nat} {h p n : Nat} (t : Tree nd N fx pos h p n) : n < N := by
  cases h with
  | zero => exact t.1
  | succ h => exact t.1
theorem Tree.at {nd : Nat → Nat → Nat} {N fx : Nat} {pos : Nat → Nat × Nat} {h p n : Nat} (t : Tree nd N fx pos h p n) (hf : fx ≤ n) : pos n = (h, p) := by
  cases h with
  | zero => exact t.2 hf
  | succ h => exact t.2.1 hf
theorem Tree.kid {nd : Nat → Nat → Nat} {N fx : Nat} {pos : Nat → Nat × Nat} {h p n : Nat} (t : Tree nd N fx pos (h + 1) p n) (hn : n ≠ 0) {j : Nat} (hj : j < 4) : Tree nd N fx pos h (p * 4 + j) (nd n j) := t.2.2 hn j hj
theorem Tree.wf {nd : Nat → Nat → Nat} {N fx : Nat} {pos : Nat → Nat × Nat} : ∀ {h p n : Nat}, Tree nd N fx pos h p n → Wf nd N h n
  | 0, p, n, t => t.1
  | h + 1, p, n, t => ⟨t.1, fun hn j hj => (t.kid hn hj).wf⟩
/-- a whole tree of kept nodes lies where you like -/
theorem Wf.tree {nd : Nat → Nat → Nat} {B N fx : Nat} (pos : Nat → Nat × Nat) (hB : B ≤ fx) (hN : B ≤ N) : ∀ {h p n : Nat}, Wf nd B h n → Tree nd N fx pos h p n
  | 0, p, n, t => ⟨Nat.lt_of_lt_of_le t hN, fun hf => absurd (Nat.lt_of_lt_of_le t hB) (by omega)⟩
  | h + 1, p, n, t => ⟨Nat.lt_of_lt_of_le t.1 hN, fun hf => absurd (Nat.lt_of_lt_of_le t.1 hB) (by omega), fun hn j hj => (t.kid hn hj).tree pos hB hN⟩
theorem Wf.mono {nd : Nat → Nat → Nat} {B B' : Nat} (hB : B ≤ B') : ∀ {h n : Nat}, Wf nd B h n → Wf nd B' h n
  | 0, n, t => Nat.lt_of_lt_of_le t hB
  | h + 1, n, t => ⟨Nat.lt_of_lt_of_le t.1 hB, fun hn j hj => (t.kid hn hj).mono hB⟩
theorem Wf.move {nd nd' : Nat → Nat → Nat} {B : Nat} (hB : 0 < B) (e : ∀ i, i < B → ∀ j, nd' i j = nd i j) : ∀ {h n : Nat}, Wf nd B h n → Wf nd' B h n ∧ ∀ x, rd nd' h n x = rd nd h n x
  | 0, n, t => ⟨t, fun x => e n t _⟩
  | h + 1, n, t => by
    refine ⟨⟨t.1, fun hn j hj => ?_⟩, fun x => ?_⟩
    · rw [e n t.1]; exact ((t.kid hn hj).move hB e).1
    · unfold rd
      by_cases hn : n = 0
      · rw [if_pos hn, if_pos hn, e 0 hB]
      · rw [if_neg hn, if_neg hn, e n t.1]; exact ((t.kid hn (dig_lt _ _)).move hB e).2 x
theorem down_wf {nd : Nat → Nat → Nat} {B : Nat} (c : Nat) (hB : 0 < B) : ∀ (k h n : Nat), Wf nd B (h + k) n → Wf nd B h (down nd c k (h + k) n)
  | 0, h, n, t => t
  | k + 1, h, n, t => by
    unfold down
    by_cases hn : n = 0
    · rw [if_pos hn]
      cases h with
      | zero => exact hB
      | succ h => exact ⟨hB, fun h => absurd rfl h⟩
    · rw [if_neg hn]
      exact down_wf c hB k h _ (Wf.kid (h := h + k) t hn (dig_lt _ _))
theorem down_move {nd nd' : Nat → Nat → Nat} {B : Nat} (c : Nat) (e : ∀ i, i < B → ∀ j, nd' i j = nd i j) : ∀ (k h n : Nat), Wf nd B (h + k) n → down nd' c k (h + k) n = down nd c k (h + k) n
  | 0, h, n, t => rfl
  | k + 1, h, n, t => by
    unfold down
    by_cases hn : n = 0
    · rw [if_pos hn, if_pos hn]
    · rw [if_neg hn, if_neg hn, e n t.1]
      exact down_move c e k h _ (Wf.kid (h := h + k) t hn (dig_lt _ _))
theorem na_wf {nd : Nat → Nat → Nat} {B rf hf : Nat} (c h : Nat) (hB : 0 < B) (t : Wf nd B hf rf) : Wf nd B h (na nd rf hf c h) := by
  have hz : Wf nd B h 0 := by
    cases h with
    | zero => exact hB
    | succ h => exact ⟨hB, fun h => absurd rfl h⟩
  unfold na
  by_cases h1 : hf < h
  · rw [if_pos h1]; exact hz
  · rw [if_neg h1]
    by_cases h2 : 4 ^ (hf + 1) ≤ c
    · rw [if_pos h2]; exact hz
    · rw [if_neg h2]
      have e : hf = h + (hf - h) := by omega
      have := down_wf c hB (hf - h) h rf (by rw [← e]; exact t)
      rw [← e] at this; exact this
theorem na_move {nd nd' : Nat → Nat → Nat} {B rf hf : Nat} (c h : Nat) (e : ∀ i, i < B → ∀ j, nd' i j = nd i j) (t : Wf nd B hf rf) : na nd' rf hf c h = na nd rf hf c h := by
  unfold na
  by_cases h1 : hf < h
  · rw [if_pos h1, if_pos h1]
  · rw [if_neg h1, if_neg h1]
    have e' : hf = h + (hf - h) := by omega
    have := down_move c e (hf - h) h rf (by rw [← e']; exact t)
    rw [← e'] at this; rw [this]

/-- a tree that a change does not reach -/
theorem Tree.move {nd nd' : Nat → Nat → Nat} {N N' fx : Nat} {pos pos' : Nat → Nat × Nat} (Q : Nat → Nat → Prop) (hQ : ∀ h p j, j < 4 → Q (h + 1) p → Q h (p * 4 + j)) (hfx : 0 < fx) (hfN : fx ≤ N) (hN : N ≤ N')
    (e : ∀ i, i < N → (i < fx ∨ ∃ h p, Q h p ∧ pos i = (h, p)) → (∀ j, j < 4 → nd' i j = nd i j) ∧ pos' i = pos i) :
    ∀ {h p n : Nat}, Q h p → Tree nd N fx pos h p n → Tree nd' N' fx pos' h p n ∧ ∀ x, rd nd' h n x = rd nd h n x := by
  have key : ∀ {h p n : Nat}, Q h p → Tree nd N fx pos h p n → (∀ j, j < 4 → nd' n j = nd n j) ∧ pos' n = pos n := by
    intro h p n q t
    refine e n t.lt ?_
    by_cases hf : n < fx
    · exact .inl hf
    · exact .inr ⟨h, p, q, t.at (by omega)⟩
  intro h
  induction h with
  | zero =>
    intro p n q t
    obtain ⟨k1, k2⟩ := key q t
    exact ⟨⟨Nat.lt_of_lt_of_le t.1 hN, fun hf => by rw [k2]; exact t.2 hf⟩, fun x => k1 _ (dig_lt _ _)⟩
  | succ h ih =>
    intro p n q t
    obtain ⟨k1, k2⟩ := key q t
    refine ⟨⟨Nat.lt_of_lt_of_le t.1 hN, fun hf => by rw [k2]; exact t.2.1 hf, fun hn j hj => ?_⟩, fun x => ?_⟩
    · rw [k1 j hj]; exact (ih (hQ _ _ _ hj q) (t.kid hn hj)).1
    · unfold rd
      by_cases hn : n = 0
      · rw [if_pos hn, if_pos hn, (e 0 (by omega) (.inl hfx)).1 _ (dig_lt _ _)]
      · rw [if_neg hn, if_neg hn, k1 _ (dig_lt _ _)]
        exact (ih (hQ _ _ _ (dig_lt _ _) q) (t.kid hn (dig_lt _ _))).2 x

/-- node 0 holds nothing -/
def Zero (nd : Nat → Nat → Nat) : Prop := ∀ j, nd 0 j = 0
theorem rd_zero {nd : Nat → Nat → Nat} (z : Zero nd) : ∀ (h x : Nat), rd nd h 0 x = 0
  | 0, x => z _
  | h + 1, x => by unfold rd; rw [if_pos rfl]; exact z _
theorem rd_succ {nd : Nat → Nat → Nat} (z : Zero nd) (h n x : Nat) : rd nd (h + 1) n x = rd nd h (nd n (dig x (h + 1))) x := by
  by_cases hn : n = 0
  · subst hn; rw [z, rd_zero z, rd_zero z]
  · show (if n = 0 then _ else _) = _
    rw [if_neg hn]
theorem rd_wf0 {nd : Nat → Nat → Nat} {B : Nat} (hB : 0 < B) : ∀ h, Wf nd B h 0
  | 0 => hB
  | h + 1 => ⟨hB, fun h => absurd rfl h⟩
theorem Tree.zero {nd : Nat → Nat → Nat} {N fx : Nat} {pos : Nat → Nat × Nat} (hfx : 0 < fx) (hN : fx ≤ N) (h p : Nat) : Tree nd N fx pos h p 0 := (rd_wf0 hfx h).tree pos (Nat.le_refl _) hN
theorem Tree.kid' {nd : Nat → Nat → Nat} {N fx : Nat} {pos : Nat → Nat × Nat} {h p n : Nat} (z : Zero nd) (hfx : 0 < fx) (hN : fx ≤ N) (t : Tree nd N fx pos (h + 1) p n) {j : Nat} (hj : j < 4) : Tree nd N fx pos h (p * 4 + j) (nd n j) := by
  by_cases hn : n = 0
  · subst hn; rw [z]; exact Tree.zero hfx hN _ _
  · exact t.kid hn hj

/-- two chains that a tree of height h does not tell apart -/
def Same (h x c : Nat) : Prop := ∀ k, k ≤ h → dig x k = dig c k
theorem rd_same {nd : Nat → Nat → Nat} (z : Zero nd) {x c : Nat} : ∀ (h n : Nat), Same h x c → rd nd h n x = rd nd h n c
  | 0, n, s => by show nd n _ = nd n _; rw [s 0 (Nat.le_refl _)]
  | h + 1, n, s => by rw [rd_succ z, rd_succ z, s (h + 1) (Nat.le_refl _)]; exact rd_same z h _ (fun k hk => s k (by omega))
theorem div4 (c h : Nat) : c / 4 ^ (h + 1) / 4 = c / 4 ^ (h + 1 + 1) := by rw [Nat.div_div_eq_div_mul, ← Nat.pow_succ]
theorem path_kid (c h : Nat) : c / 4 ^ (h + 1 + 1) * 4 + dig c (h + 1) = c / 4 ^ (h + 1) := by rw [← div4]; unfold dig; omega
theorem path_not (c h p j : Nat) (hj : j < 4) (hp : p ≠ c / 4 ^ (h + 1 + 1)) : p * 4 + j ≠ c / 4 ^ (h + 1) := by rw [← div4] at hp; omega
theorem path_not' (c h j : Nat) (hj : j < 4) (hp : j ≠ dig c (h + 1)) : c / 4 ^ (h + 1 + 1) * 4 + j ≠ c / 4 ^ (h + 1) := by rw [← div4]; unfold dig at hp; omega
end Go.Proofs.Ybulkcqyu
