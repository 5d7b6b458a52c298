/-
  A clockStore in memory ('St'): the list of chunks, how many nodes, which are fixed, what each node holds. No walk here.
-/
import Derived.Test.YbulkcqyuRows
import Derived.Test.YbulkcqyuHeap
import Derived.Deep.RegionHeld
namespace Go.Proofs.Ybulkcqyu
set_option linter.unusedVariables false
set_option linter.unusedSimpArgs false
open Go.RowKit Go.Deep

/-- the list's cells -/
def ptrs (cb : Nat → Nat) (ll : Nat) : List Value := (List.range ll).map (fun q => Value.pointer (some ⟨cb q, 0, none⟩))
theorem ptrs_length (cb : Nat → Nat) (ll : Nat) : (ptrs cb ll).length = ll := by simp [ptrs]
theorem ptrs_succ (cb : Nat → Nat) (ll : Nat) : ptrs cb (ll + 1) = ptrs cb ll ++ [.pointer (some ⟨cb ll, 0, none⟩)] := by simp [ptrs, List.range_succ]
theorem ptrs_congr {cb cb' : Nat → Nat} {ll : Nat} (h : ∀ q, q < ll → cb q = cb' q) : ptrs cb ll = ptrs cb' ll := by
  unfold ptrs
  apply List.map_congr_left
  intro q hq
  rw [h q (List.mem_range.1 hq)]

/-- one chunk's row -/
def chunkRow (nd : Nat → Nat → Nat) (q : Nat) : Nat → Value := fun x => .int .u32 ((nd (q * 4096 + x / 4) (x % 4) : Nat) : Int)

structure St (w : World) (base b N fx : Nat) (nd : Nat → Nat → Nat) (lv : Value) (ll : Nat) (cb : Nat → Nat) : Prop where
  rb : w.rowIs b 51 3 (fun o => if o = 0 then lv else if o = 1 then .int .u32 (N : Int) else .int .u32 (fx : Int))
  own : w.ownsRow base 84 1 lv ll (ptrs cb ll)
  chunk : ∀ q, q < ll → w.rowIs (cb q) 85 16384 (chunkRow nd q)
  room : N ≤ ll * 4096
  lo : ∀ q, q < ll → base ≤ cb q
  nb : ∀ q, q < ll → cb q ≠ b
  nl : ∀ q, q < ll → lv.ownBlock ≠ some (cb q)
  nlb : lv.ownBlock ≠ some b
  inj : ∀ q q', q < ll → q' < ll → q ≠ q' → cb q ≠ cb q'

/-- the blocks that a store uses -/
def Foot (b : Nat) (lv : Value) (ll : Nat) (cb : Nat → Nat) (x : Nat) : Prop := x = b ∨ lv.ownBlock = some x ∨ ∃ q, q < ll ∧ x = cb q

section
variable {w w' : World} {base b N fx : Nat} {nd : Nat → Nat → Nat} {lv : Value} {ll : Nat} {cb : Nat → Nat}

theorem St.keep {S : Nat → Prop} (h : St w base b N fx nd lv ll cb) (hc : Chg S w w') (hS : ∀ x, S x → ¬ Foot b lv ll cb x) : St w' base b N fx nd lv ll cb :=
  ⟨hc.row h.rb (fun hs => hS _ hs (.inl rfl)), hc.owns h.own (fun x hx hs => hS _ hs (.inr (.inl hx))), fun q hq => hc.row (h.chunk q hq) (fun hs => hS _ hs (.inr (.inr ⟨q, hq, rfl⟩))), h.room, h.lo, h.nb, h.nl, h.nlb, h.inj⟩

theorem St.drew (h : St w base b N fx nd lv ll cb) : St w.drew base b N fx nd lv ll cb := h.keep ((Chg.refl (fun _ => False) w).drew) (fun _ x => x.elim)
theorem St.drewN (h : St w base b N fx nd lv ll cb) (n : Nat) : St (w.drewN n) base b N fx nd lv ll cb := h.keep ((Chg.refl (fun _ => False) w).drewN n) (fun _ x => x.elim)
/-- 'c.list[i>>12]' -/
theorem St.list (h : St w base b N fx nd lv ll cb) {i : Nat} (hi : i < ll * 4096) : ∃ lb lc, lv = .slice (some ⟨lb, 0, none⟩) ll lc ∧ w.cell? ⟨lb, i / 4096, none⟩ = some (.pointer (some ⟨cb (i / 4096), 0, none⟩)) := by
  have hq : i / 4096 < ll := by omega
  obtain ⟨lb, lc, hv, _, _⟩ := h.own.form (by omega)
  have ho := h.own
  rw [hv] at ho
  obtain ⟨_, _, _, _, _, F, hr, hF⟩ := rowOfOwns ho
  have e := hF (i / 4096) hq
  have e2 : (ptrs cb ll)[i / 4096]? = some (.pointer (some ⟨cb (i / 4096), 0, none⟩)) := by simp [ptrs, hq]
  rw [e2] at e
  refine ⟨lb, lc, hv, ?_⟩
  have hnc : ll ≤ lc := by
    have := (rowOfOwns ho).2.2.1
    exact this
  rw [hr.cell (by omega)]
  exact e.symm

/-- a node's cell -/
theorem St.node (h : St w base b N fx nd lv ll cb) {i j : Nat} (hi : i < ll * 4096) (hj : j < 4) : w.cell? ⟨cb (i / 4096), i % 4096 * 4 + j, none⟩ = some (.int .u32 ((nd i j : Nat) : Int)) := by
  have hq : i / 4096 < ll := by omega
  rw [(h.chunk (i / 4096) hq).cell (by omega)]
  have e1 : i / 4096 * 4096 + (i % 4096 * 4 + j) / 4 = i := by omega
  have e2 : (i % 4096 * 4 + j) % 4 = j := by omega
  unfold chunkRow
  rw [e1, e2]
theorem St.nodeFrozen (h : St w base b N fx nd lv ll cb) {i : Nat} (hi : i < ll * 4096) (o : Nat) : w.frozen? ⟨cb (i / 4096), o, none⟩ = false := (h.chunk (i / 4096) (by omega)).frozen _

/-- a store into a node -/
theorem St.set (h : St w base b N fx nd lv ll cb) {i j : Nat} (hi : i < ll * 4096) (hj : j < 4) (v : Nat) :
    St (w.setCell ⟨cb (i / 4096), i % 4096 * 4 + j, none⟩ (.int .u32 ((v : Nat) : Int))) base b N fx (fun i' j' => if i' = i ∧ j' = j then v else nd i' j') lv ll cb := by
  have hq : i / 4096 < ll := by omega
  have hc : Chg (fun x => x = cb (i / 4096)) w (w.setCell ⟨cb (i / 4096), i % 4096 * 4 + j, none⟩ (.int .u32 ((v : Nat) : Int))) := (Chg.refl (fun x => x = cb (i / 4096)) w).setCell (p := ⟨cb (i / 4096), i % 4096 * 4 + j, none⟩) (fun _ => rfl) _
  refine ⟨hc.row h.rb (fun e => h.nb _ hq e.symm), hc.owns h.own (fun x hx e => h.nl _ hq (by rw [hx]; exact congrArg some e)), fun q hq' => ?_, h.room, h.lo, h.nb, h.nl, h.nlb, h.inj⟩
  by_cases e : q = i / 4096
  · subst e
    refine ((h.chunk _ hq).set _ _).congr (fun x hx => ?_)
    unfold chunkRow
    dsimp only
    by_cases ex : x = i % 4096 * 4 + j
    · rw [if_pos ex, if_pos ⟨by omega, by omega⟩]
    · rw [if_neg ex, if_neg (by omega)]
  · refine (hc.row (h.chunk q hq') (h.inj _ _ hq' hq e)).congr (fun x hx => ?_)
    unfold chunkRow
    dsimp only
    rw [if_neg]
    intro hh
    apply e
    omega

/-- one node more -/
theorem St.bump (h : St w base b N fx nd lv ll cb) (hN : N < ll * 4096) : St (w.setCell ⟨b, 1, none⟩ (.int .u32 ((N + 1 : Nat) : Int))) base b (N + 1) fx nd lv ll cb := by
  have hc : Chg (fun x => x = b) w (w.setCell ⟨b, 1, none⟩ (.int .u32 ((N + 1 : Nat) : Int))) := (Chg.refl (fun x => x = b) w).setCell (p := ⟨b, 1, none⟩) (fun _ => rfl) _
  refine ⟨(h.rb.set 1 _).congr (fun o _ => ?_), hc.owns h.own (fun x hx e => h.nlb (by rw [hx, e])), fun q hq => hc.row (h.chunk q hq) (h.nb q hq), by omega, h.lo, h.nb, h.nl, h.nlb, h.inj⟩
  by_cases e : o = 1
  · rw [if_pos e, if_neg (by omega), if_pos e]
  · rw [if_neg e]
    by_cases e0 : o = 0
    · rw [if_pos e0, if_pos e0]
    · rw [if_neg e0, if_neg e0, if_neg e, if_neg e]
/-- fix -/
theorem St.fixed (h : St w base b N fx nd lv ll cb) : St (w.setCell ⟨b, 2, none⟩ (.int .u32 ((N : Nat) : Int))) base b N N nd lv ll cb := by
  have hc : Chg (fun x => x = b) w (w.setCell ⟨b, 2, none⟩ (.int .u32 ((N : Nat) : Int))) := (Chg.refl (fun x => x = b) w).setCell (p := ⟨b, 2, none⟩) (fun _ => rfl) _
  refine ⟨(h.rb.set 2 _).congr (fun o ho => ?_), hc.owns h.own (fun x hx e => h.nlb (by rw [hx, e])), fun q hq => hc.row (h.chunk q hq) (h.nb q hq), h.room, h.lo, h.nb, h.nl, h.nlb, h.inj⟩
  by_cases e : o = 2
  · rw [if_pos e, if_neg (by omega), if_neg (by omega)]
  · rw [if_neg e]
    by_cases e0 : o = 0
    · rw [if_pos e0, if_pos e0]
    · rw [if_neg e0, if_neg e0, if_pos (by omega), if_pos (by omega)]
theorem St.congr {nd' : Nat → Nat → Nat} (h : St w base b N fx nd lv ll cb) (e : ∀ i, i < ll * 4096 → ∀ j, j < 4 → nd i j = nd' i j) : St w base b N fx nd' lv ll cb :=
  ⟨h.rb, h.own, fun q hq => (h.chunk q hq).congr (fun x hx => by unfold chunkRow; rw [e _ (by omega) _ (by omega)]), h.room, h.lo, h.nb, h.nl, h.nlb, h.inj⟩

/-- a chunk more: behind 'c.list = append(c.list, new(..))': W1 the world with the new chunk laid, W2 behind the append -/
theorem St.chunkMore {W1 W2 : World} {g cap : Nat} (h : St w base b N fx nd lv ll cb) (hc : Chg (fun _ => False) w W1) (k : Nat) (hk : w.heap.size ≤ k) (hk1 : k < W1.heap.size) (rk : W1.rowIs k 85 16384 (fun _ => .int .u32 0)) (hbase : base ≤ w.heap.size)
    (hown : W2.ownsRow base 84 1 (.slice (some ⟨g, 0, none⟩) (ll + 1) cap) (ll + 1) (ptrs cb ll ++ [.pointer (some ⟨k, 0, none⟩)])) (hg : Chg (fun x => lv.ownBlock = some x) W1 W2) (hat : lv.ownBlock = some g ∨ W1.heap.size ≤ g) :
    St (W2.setCell ⟨b, 0, none⟩ (.slice (some ⟨g, 0, none⟩) (ll + 1) cap)) base b N fx (fun i j => if i < ll * 4096 then nd i j else 0) (.slice (some ⟨g, 0, none⟩) (ll + 1) cap) (ll + 1) (fun q => if q < ll then cb q else k) := by
  have hroom : N ≤ (ll + 1) * 4096 := Nat.le_trans h.room (Nat.mul_le_mul_right _ (Nat.le_succ _))
  have hb := h.rb.lt
  have hcl : ∀ q, q < ll → cb q < w.heap.size := fun q hq => (h.chunk q hq).lt
  have hw1 := hc.size
  have hgb : g ≠ b := by
    rcases hat with e | e
    · intro e'; exact h.nlb (by rw [e, e'])
    · omega
  have hgc : ∀ q, q < ll → g ≠ cb q := by
    intro q hq
    rcases hat with e | e
    · intro e'; exact h.nl q hq (by rw [e, e'])
    · have := hcl q hq; omega
  have hlk : ∀ x, lv.ownBlock = some x → x < w.heap.size := fun x hx => (h.own.lt x hx).2
  have hgk : g ≠ k := by
    rcases hat with e | e
    · have := hlk g e; omega
    · omega
  have c3 : Chg (fun x => x = b) W2 (W2.setCell ⟨b, 0, none⟩ (.slice (some ⟨g, 0, none⟩) (ll + 1) cap)) := (Chg.refl (fun x => x = b) W2).setCell (p := ⟨b, 0, none⟩) (fun _ => rfl) _
  have rb2 : W2.rowIs b 51 3 (fun o => if o = 0 then lv else if o = 1 then .int .u32 (N : Int) else .int .u32 (fx : Int)) := hg.row (hc.row h.rb (fun h => h)) h.nlb
  have ep : ptrs cb ll ++ [.pointer (some ⟨k, 0, none⟩)] = ptrs (fun q => if q < ll then cb q else k) (ll + 1) := by
    rw [ptrs_succ]
    simp only [Nat.lt_irrefl, if_false]
    rw [ptrs_congr (fun q hq => (if_pos hq).symm)]
  refine ⟨(rb2.set 0 _).congr (fun o _ => ?_), ?_, fun q hq => ?_, hroom, fun q hq => ?_, fun q hq => ?_, fun q hq => ?_, ?_, fun q q' hq hq' ne => ?_⟩
  · by_cases e : o = 0
    · rw [if_pos e, if_pos e]
    · rw [if_neg e, if_neg e, if_neg e]
  · rw [← ep]; exact c3.owns hown (fun x hx e => by simp only [Value.ownBlock, Option.some.injEq] at hx; omega)
  · by_cases e : q < ll
    · simp only [if_pos e]
      refine (c3.row (hg.row (hc.row (h.chunk q e) (fun h => h)) (h.nl q e)) (h.nb q e)).congr (fun x hx => ?_)
      unfold chunkRow
      dsimp only
      rw [if_pos (by omega)]
    · simp only [if_neg e]
      refine (c3.row (hg.row rk (fun hx => by have := hlk _ hx; omega)) (by omega)).congr (fun x hx => ?_)
      unfold chunkRow
      dsimp only
      rw [if_neg (by omega)]
      rfl
  · by_cases e : q < ll
    · simp only [if_pos e]; exact h.lo q e
    · simp only [if_neg e]; omega
  · by_cases e : q < ll
    · simp only [if_pos e]; exact h.nb q e
    · simp only [if_neg e]; omega
  · by_cases e : q < ll
    · simp only [if_pos e, Value.ownBlock]; intro e'; simp only [Option.some.injEq] at e'; exact hgc q e e'
    · simp only [if_neg e, Value.ownBlock]; intro e'; simp only [Option.some.injEq] at e'; exact hgk e'
  · simp only [Value.ownBlock]; intro e'; simp only [Option.some.injEq] at e'; exact hgb e'
  · by_cases e : q < ll
    · by_cases e' : q' < ll
      · simp only [if_pos e, if_pos e']; exact h.inj q q' e e' ne
      · simp only [if_pos e, if_neg e']; have := hcl q e; omega
    · by_cases e' : q' < ll
      · simp only [if_neg e, if_pos e']; have := hcl q' e'; omega
      · omega
end

/-- .. with the list and the chunks out of sight: what is used is the footprint -/
def Str (w : World) (base b N fx : Nat) (nd : Nat → Nat → Nat) (Fp : Nat → Prop) : Prop := ∃ lv ll cb, St w base b N fx nd lv ll cb ∧ (∀ x, Fp x ↔ Foot b lv ll cb x) ∧ base ≤ w.heap.size ∧ ll * 4096 ≤ N + 4096
/-- what a step does to the world: it writes in the footprint alone; the footprint grows by new blocks alone -/
def Step (w w' : World) (Fp Fp' : Nat → Prop) : Prop := Chg Fp w w' ∧ ∀ x, Fp' x → Fp x ∨ w.heap.size ≤ x
theorem Step.refl (w : World) (Fp : Nat → Prop) : Step w w Fp Fp := ⟨Chg.refl _ _, fun x h => .inl h⟩
theorem Step.trans {a b c : World} {F G H : Nat → Prop} (h : Step a b F G) (k : Step b c G H) : Step a c F H :=
  ⟨h.1.andThen k.1 (fun x hx hlt => by rcases h.2 x hx with h1 | h1; exact h1; omega), fun x hx => by
    rcases k.2 x hx with h1 | h1
    · exact h.2 x h1
    · exact .inr (Nat.le_trans h.1.size h1)⟩
/-- new blocks ahead of a step -/
theorem Step.after {a b c : World} {F G : Nat → Prop} (h : Chg (fun _ => False) a b) (k : Step b c F G) : Step a c F G :=
  ⟨(h.mono (fun _ x => x.elim)).trans k.1, fun x hx => by rcases k.2 x hx with h1 | h1; exact .inl h1; exact .inr (Nat.le_trans h.size h1)⟩
theorem Step.before {a b c : World} {F G : Nat → Prop} (k : Step a b F G) (h : Chg (fun x => a.heap.size ≤ x) b c) : Step a c F G :=
  ⟨k.1.andThen h (fun x hx hlt => by omega), k.2⟩
theorem Step.far {a b : World} {F G : Nat → Prop} (k : Step a b F G) {x : Nat} (hx : ¬ F x) (hlt : x < a.heap.size) : ¬ G x := fun h => by rcases k.2 x h with h1 | h1; exact hx h1; omega

theorem Str.keep {w w' : World} {base b N fx : Nat} {nd : Nat → Nat → Nat} {Fp : Nat → Prop} {S : Nat → Prop} (h : Str w base b N fx nd Fp) (hc : Chg S w w') (hS : ∀ x, S x → ¬ Fp x) : Str w' base b N fx nd Fp := by
  obtain ⟨lv, ll, cb, hs, hf, hb, hll⟩ := h
  exact ⟨lv, ll, cb, hs.keep hc (fun x hx hh => hS x hx ((hf x).2 hh)), hf, Nat.le_trans hb hc.size, hll⟩
theorem Str.grow {w w' : World} {base b N fx : Nat} {nd : Nat → Nat → Nat} {Fp : Nat → Prop} (h : Str w base b N fx nd Fp) (hc : Chg (fun _ => False) w w') : Str w' base b N fx nd Fp := h.keep hc (fun _ x => x.elim)
/-- the footprint lies in memory that is there -/
theorem Str.lt {w : World} {base b N fx : Nat} {nd : Nat → Nat → Nat} {Fp : Nat → Prop} (h : Str w base b N fx nd Fp) {x : Nat} (hx : Fp x) : x < w.heap.size := by
  obtain ⟨lv, ll, cb, hs, hf, hb, hll⟩ := h
  rcases (hf x).1 hx with rfl | h1 | ⟨q, hq, rfl⟩
  · exact hs.rb.lt
  · exact (hs.own.lt x h1).2
  · exact (hs.chunk q hq).lt
theorem Str.bIn {w : World} {base b N fx : Nat} {nd : Nat → Nat → Nat} {Fp : Nat → Prop} (h : Str w base b N fx nd Fp) : Fp b := by
  obtain ⟨lv, ll, cb, hs, hf, hb, hll⟩ := h
  exact (hf b).2 (.inl rfl)
theorem Str.lo {w : World} {base b N fx : Nat} {nd : Nat → Nat → Nat} {Fp : Nat → Prop} (h : Str w base b N fx nd Fp) {x : Nat} (hx : Fp x) : x = b ∨ base ≤ x := by
  obtain ⟨lv, ll, cb, hs, hf, hb, hll⟩ := h
  rcases (hf x).1 hx with h1 | h1 | ⟨q, hq, rfl⟩
  · exact .inl h1
  · exact .inr (hs.own.lt x h1).1
  · exact .inr (hs.lo q hq)
end Go.Proofs.Ybulkcqyu
