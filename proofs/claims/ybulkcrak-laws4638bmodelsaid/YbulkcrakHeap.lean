/-
  Words on the heap for this seat's proofs: 'Chg S w w'': w' is w but for new blocks and for the blocks in S. Laws on rows ('World.rowIs').
-/
import Derived.WalkKit
import Derived.Deep.OwnRows
import Derived.Deep.Draws
import Derived.Deep.AppendLies
namespace Go.Proofs.Ybulkcrak
set_option linter.unusedVariables false
set_option linter.unusedSimpArgs false
open Go.RowKit Go.Deep

/-- w' is w but for new blocks and for what lies in the blocks of S. -/
structure Chg (S : Nat → Prop) (w w' : World) : Prop where
  os : w'.os = w.os
  tape : w'.tape = w.tape
  output : w'.output = w.output
  size : w.heap.size ≤ w'.heap.size
  block : ∀ k, k < w.heap.size → ¬ S k → w'.heap[k]? = w.heap[k]?

namespace Chg
variable {S T : Nat → Prop} {w w' w'' : World}
theorem refl (S : Nat → Prop) (w : World) : Chg S w w := ⟨rfl, rfl, rfl, Nat.le_refl _, fun _ _ _ => rfl⟩
theorem trans (h : Chg S w w') (k : Chg S w' w'') : Chg S w w'' :=
  ⟨k.os.trans h.os, k.tape.trans h.tape, k.output.trans h.output, Nat.le_trans h.size k.size,
    fun i hi hs => (k.block i (Nat.lt_of_lt_of_le hi h.size) hs).trans (h.block i hi hs)⟩
/-- the second step may touch what the first one made -/
theorem andThen (h : Chg S w w') (k : Chg T w' w'') (hT : ∀ b, T b → b < w.heap.size → S b) : Chg S w w'' :=
  ⟨k.os.trans h.os, k.tape.trans h.tape, k.output.trans h.output, Nat.le_trans h.size k.size,
    fun i hi hs => (k.block i (Nat.lt_of_lt_of_le hi h.size) (fun ht => hs (hT i ht hi))).trans (h.block i hi hs)⟩
theorem mono (h : Chg S w w') (hST : ∀ b, S b → T b) : Chg T w w' := ⟨h.os, h.tape, h.output, h.size, fun k hk hs => h.block k hk (fun x => hs (hST k x))⟩
theorem drew (h : Chg S w w') : Chg S w w'.drew := ⟨h.os, h.tape, h.output, h.size, h.block⟩
theorem drewN (h : Chg S w w') (n : Nat) : Chg S w (w'.drewN n) := ⟨h.os, h.tape, h.output, h.size, h.block⟩
theorem alloc (h : Chg S w w') (o : Obj) : Chg S w (w'.alloc o) :=
  h.trans ⟨rfl, rfl, rfl, by rw [nblk_alloc]; omega, fun k hk _ => blk_alloc_lt _ _ _ hk⟩
theorem setCell (h : Chg S w w') {p : Addr} (hp : p.block < w.heap.size → S p.block) (u : Value) : Chg S w (w'.setCell p u) :=
  ⟨h.os, h.tape, h.output, by rw [nblk_setCell]; exact h.size, fun k hk hs => by
    rw [blk_setCell_other _ _ _ _ (fun e => hs (by rw [e]; exact hp (by rw [← e]; exact hk)))]; exact h.block k hk hs⟩
theorem grown (h : Chg S w w') {row : Option Nat} (hg : w'.grownBy w'' row) (hr : ∀ k, row = some k → k < w.heap.size → S k) : Chg S w w'' :=
  h.andThen (T := fun b => row = some b) ⟨hg.os, hg.tape, hg.output, hg.size, fun k hk hs => hg.block k hk (fun e => hs e.symm)⟩ (fun b e hb => hr b e hb)
theorem below (h : Chg S w w') {B : Nat} (hB : B ≤ w.heap.size) (hS : ∀ b, b < B → ¬ S b) : Below B w w' := ⟨h.os, h.tape, h.output, h.size, fun k hk => h.block k (Nat.lt_of_lt_of_le hk hB) (hS k hk)⟩
theorem ofBelow {B : Nat} (h : Below B w w') (hB : ∀ b, b < w.heap.size → B ≤ b → S b) : Chg S w w' :=
  ⟨h.os, h.tape, h.output, h.size, fun k hk hs => h.block k (by rcases Nat.lt_or_ge k B with h1 | h1; exact h1; exact absurd (hB k hk h1) hs)⟩
theorem row (h : Chg S w w') {b : Nat} {t : TypeId} {n : Nat} {f : Nat → Value} (hr : w.rowIs b t n f) (hs : ¬ S b) : w'.rowIs b t n f := hr.of_block (h.block b hr.lt hs)
theorem cell (h : Chg S w w') {p : Addr} (hp : p.block < w.heap.size) (hs : ¬ S p.block) : w'.cell? p = w.cell? p := World.cell?_of_block (w := w) (h.block _ hp hs)
theorem frozen (h : Chg S w w') {p : Addr} (hp : p.block < w.heap.size) (hs : ¬ S p.block) : w'.frozen? p = w.frozen? p := World.frozen?_of_block (w := w) (h.block _ hp hs)
theorem owns (h : Chg S w w') {base : Nat} {e : TypeId} {size : Nat} {v : Value} {n : Nat} {xs : List Value} (ho : w.ownsRow base e size v n xs) (hs : ∀ b, v.ownBlock = some b → ¬ S b) : w'.ownsRow base e size v n xs := by
  refine ⟨ho.1, ?_⟩
  rcases ho.2 with hn | ⟨g, cap, cur, rfl, hb, hgg, rest⟩
  · exact .inl hn
  · refine .inr ⟨g, cap, cur, rfl, hb, ?_, rest⟩
    rw [h.block g (Array.getElem?_eq_some_iff.1 hgg).1 (hs g rfl)]
    exact hgg
end Chg

/-- A row of numbers, out of an owned slice. -/
theorem rowOfOwns {w : World} {base : Nat} {e : TypeId} {g cap n : Nat} {xs : List Value} (h : w.ownsRow base e 1 (.slice (some ⟨g, 0, none⟩) n cap) n xs) :
    base ≤ g ∧ g < w.heap.size ∧ n ≤ cap ∧ cap ≤ maxLen ∧ xs.length = n ∧ ∃ F, w.rowIs g e cap F ∧ ∀ t, t < n → xs[t]? = some (F t) := by
  obtain ⟨hl, h2⟩ := h
  rcases h2 with ⟨h, _⟩ | ⟨g', cap', cur, hv, hb, hg, hn, hm, hcs, htake⟩
  · cases h
  · simp only [Value.slice.injEq, Option.some.injEq, Addr.mk.injEq] at hv
    obtain ⟨⟨rfl, _⟩, _, rfl⟩ := hv
    simp only [Nat.mul_one] at hl hcs htake
    refine ⟨hb, (Array.getElem?_eq_some_iff.1 hg).1, hn, hm, hl, fun i => cur.getD i undef, ⟨cur, hg, hcs, fun i hi => ?_⟩, fun t ht => ?_⟩
    · have : i < cur.size := by omega
      simp [this]
    · rw [← htake, List.getElem?_take, if_pos ht]
      have : t < cur.size := by omega
      simp [this]

/-- .. and back. -/
theorem ownsOfRow {w : World} {base : Nat} {e : TypeId} {g cap n : Nat} {xs : List Value} {F : Nat → Value} (hr : w.rowIs g e cap F) (hb : base ≤ g) (hn : n ≤ cap) (hm : cap ≤ maxLen) (hl : xs.length = n)
    (hx : ∀ t, t < n → xs[t]? = some (F t)) : w.ownsRow base e 1 (.slice (some ⟨g, 0, none⟩) n cap) n xs := by
  obtain ⟨cur, hg, hcs, hc⟩ := hr
  refine ⟨by omega, .inr ⟨g, cap, cur, rfl, hb, hg, hn, hm, by omega, ?_⟩⟩
  apply List.ext_getElem?
  intro t
  rw [List.getElem?_take]
  by_cases ht : t < n * 1
  · rw [if_pos ht, hx t (by omega)]
    have := hc t (by omega)
    simpa using this
  · rw [if_neg ht]
    exact (List.getElem?_eq_none (by omega)).symm

/-- A store of several cells into a row. -/
theorem rowIs_setCells {b : Nat} {t : TypeId} {n : Nat} : ∀ (vs : List Value) (o : Nat) {w : World} {f : Nat → Value}, w.rowIs b t n f →
    (w.setCells b o vs).rowIs b t n (fun j => if o ≤ j ∧ j < o + vs.length then vs.getD (j - o) undef else f j)
  | [], o, w, f, h => h.congr (fun i _ => by simp; intro h1 h2; omega)
  | v :: r, o, w, f, h => by
    have := rowIs_setCells r (o + 1) (h.set o v)
    refine this.congr (fun i _ => ?_)
    by_cases e : i = o
    · subst e
      simp
      intro h1; omega
    · by_cases h1 : o + 1 ≤ i ∧ i < o + 1 + r.length
      · rw [if_pos h1, if_pos ⟨by omega, by simp; omega⟩]
        have : i - o = (i - (o + 1)) + 1 := by omega
        rw [this, List.getD_cons_succ]
      · rw [if_neg h1, if_neg e, if_neg (by rw [List.length_cons]; omega)]
theorem chg_setCells {S : Nat → Prop} {w : World} {b : Nat} : ∀ (vs : List Value) (o : Nat) {w' : World}, Chg S w w' → (b < w.heap.size → S b) → Chg S w (w'.setCells b o vs)
  | [], _, _, h, _ => h
  | v :: r, o, _, h, hb => chg_setCells r (o + 1) (h.setCell (p := ⟨b, o, none⟩) hb v) hb
end Go.Proofs.Ybulkcrak
