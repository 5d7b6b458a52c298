/-
  LawS4635BHeads: the plain law: what receive makes of a member agrees with the set model. No walk here.
-/
import Derived.Test.YbulkcqyuBSim
namespace Go.Proofs.Ybulkcqyu
set_option linter.unusedVariables false
set_option linter.unusedSimpArgs false

/-- how many i below k answer yes -/
def cnt (f : Nat → Bool) : Nat → Nat
  | 0 => 0
  | k + 1 => cnt f k + (if f k then 1 else 0)
theorem cnt_le (f : Nat → Bool) : ∀ k, cnt f k ≤ k
  | 0 => Nat.le_refl _
  | k + 1 => by have := cnt_le f k; simp only [cnt]; split <;> omega
theorem cnt_congr {f g : Nat → Bool} : ∀ k, (∀ i, i < k → f i = g i) → cnt f k = cnt g k
  | 0, _ => rfl
  | k + 1, h => by simp only [cnt]; rw [cnt_congr k (fun i hi => h i (by omega)), h k (by omega)]
theorem cnt_mono {f g : Nat → Bool} : ∀ k, (∀ i, i < k → f i = true → g i = true) → cnt f k ≤ cnt g k
  | 0, _ => Nat.le_refl _
  | k + 1, h => by
    have ih := cnt_mono (f := f) (g := g) k (fun i hi => h i (by omega))
    have hk := h k (by omega)
    simp only [cnt]
    cases hf : f k
    · simp; omega
    · rw [hk hf]; simp; exact ih
/-- one answer turned from no to yes -/
theorem cnt_on {f : Nat → Bool} {p : Nat} (hp : f p = false) : ∀ k, p < k → cnt (fun i => if i = p then true else f i) k = cnt f k + 1
  | 0, h => by omega
  | k + 1, h => by
    by_cases e : p = k
    · subst e
      simp only [cnt, if_true, hp]
      rw [cnt_congr (f := fun i => if i = p then true else f i) (g := f) p (fun i hi => if_neg (by omega))]
      simp
    · have ih := cnt_on hp k (by omega)
      have e3 : (fun i => if i = p then true else f i) k = f k := if_neg (fun e' => e e'.symm)
      show cnt (fun i => if i = p then true else f i) k + (if (fun i => if i = p then true else f i) k then 1 else 0) = cnt f k + (if f k then 1 else 0) + 1
      rw [ih, e3]
      omega
theorem cnt_off {f : Nat → Bool} {p : Nat} (hp : f p = true) (k : Nat) (h : p < k) : cnt f k = cnt (fun i => if i = p then false else f i) k + 1 := by
  have := cnt_on (f := fun i => if i = p then false else f i) (p := p) (by simp) k h
  rw [← this]
  apply cnt_congr
  intro i _
  by_cases e : i = p
  · simp [e, hp]
  · simp [e]
theorem cnt_all : ∀ k, cnt (fun _ => true) k = k
  | 0 => rfl
  | k + 1 => by simp [cnt, cnt_all k]

/-- a list without repetition of numbers below k that answer yes is no longer than their count -/
theorem nodup_le {f : Nat → Bool} {k : Nat} : ∀ (l : List Nat) , l.Nodup → (∀ h ∈ l, h < k ∧ f h = true) → l.length ≤ cnt f k := by
  have key : ∀ (l : List Nat), l.Nodup → (∀ h ∈ l, h < k) → l.length = cnt (fun i => l.contains i) k := by
    intro l
    induction l with
    | nil =>
      intro _ _
      have h0 : ∀ k, cnt (fun i => ([] : List Nat).contains i) k = 0 := by
        intro k
        induction k with
        | zero => rfl
        | succ k ih => simp only [cnt, ih]; simp
      rw [h0]; rfl
    | cons x xs ih =>
      intro hn hl
      have hn' := List.nodup_cons.1 hn
      have hx := hl x (List.mem_cons_self ..)
      have e := cnt_on (f := fun i => xs.contains i) (p := x) (by simpa using hn'.1) k hx
      rw [List.length_cons, ih hn'.2 (fun h hh => hl h (List.mem_cons_of_mem _ hh)), ← e]
      apply cnt_congr
      intro i _
      by_cases ei : i = x
      · simp [ei]
      · simp [ei]
  intro l hn hl
  rw [key l hn (fun h hh => (hl h hh).1)]
  apply cnt_mono
  intro i _ hi
  exact (hl i (by simpa using hi)).2

theorem idx_inj {m i j b c : Nat} (hb : b < m) (hc : c < m) (h : i * m + b = j * m + c) : i = j ∧ b = c := by
  have h1 : (i * m + b) / m = i := by rw [Nat.mul_comm, Nat.mul_add_div (by omega), Nat.div_eq_of_lt hb, Nat.add_zero]
  have h2 : (j * m + c) / m = j := by rw [Nat.mul_comm, Nat.mul_add_div (by omega), Nat.div_eq_of_lt hc, Nat.add_zero]
  have e : i = j := by rw [← h1, ← h2, h]
  subst e
  exact ⟨rfl, by omega⟩

/-- the model's side of the parents' loop -/
def headDrop (m b : Nat) (Ps : Nat → Nat) : Nat → (Nat → Bool) → (Nat → Bool)
  | 0, h => h
  | t + 1, h => fun x => if x = Ps t * m + b then false else headDrop m b Ps t h x

theorem headDrop_other {m b b' : Nat} {Ps : Nat → Nat} (hb : b < m) (hb' : b' < m) (ne : b' ≠ b) (h : Nat → Bool) (i : Nat) : ∀ t, headDrop m b Ps t h (i * m + b') = h (i * m + b')
  | 0 => rfl
  | t + 1 => by
    simp only [headDrop]
    rw [if_neg (fun e => ne (idx_inj hb' hb e).2)]
    exact headDrop_other hb hb' ne h i t
theorem headDrop_ge {m b : Nat} {Ps : Nat → Nat} (h : Nat → Bool) (i : Nat) : ∀ t, h (i * m + b) = false → headDrop m b Ps t h (i * m + b) = false
  | 0, e => e
  | t + 1, e => by
    simp only [headDrop]
    split
    · rfl
    · exact headDrop_ge h i t e

/-- What holds of member b when the messages below B have been handed round. -/
structure Mem (m k b : Nat) (hd : Nat → Int) (lv : Int) (l : List Nat) (head recv : Nat → Bool) (B : Nat) : Prop where
  hd_eq : ∀ i, i < k → hd (i * m + b) = if head (i * m + b) then (i : Int) else -1
  lv_eq : lv = cnt (fun i => head (i * m + b)) k
  nodup : l.Nodup
  lt : ∀ h ∈ l, h < B ∧ recv (h * m + b) = true
  mem : ∀ i, i < k → head (i * m + b) = true → i ∈ l
  len : (l.length : Int) ≤ 2 * lv + 8
  later : ∀ i, B ≤ i → head (i * m + b) = false

theorem Mem.later1 {m k b : Nat} {hd : Nat → Int} {lv : Int} {l : List Nat} {head recv : Nat → Bool} {B : Nat} (h : Mem m k b hd lv l head recv B) : Mem m k b hd lv l head recv (B + 1) :=
  ⟨h.hd_eq, h.lv_eq, h.nodup, fun x hx => ⟨by have := (h.lt x hx).1; omega, (h.lt x hx).2⟩, h.mem, h.len, fun i hi => h.later i (by omega)⟩

/-- the parents' loop, both sides -/
theorem drop_both {m k b : Nat} {Ps : Nat → Nat} {hd : Nat → Int} {head : Nat → Bool} (hb : b < m) (h0 : ∀ i, i < k → hd (i * m + b) = if head (i * m + b) then (i : Int) else -1) : ∀ t, (∀ s, s < t → Ps s < k) →
    (∀ i, i < k → (dropN m b Ps t (hd, (cnt (fun i => head (i * m + b)) k : Int))).1 (i * m + b) = if headDrop m b Ps t head (i * m + b) then (i : Int) else -1) ∧
    (dropN m b Ps t (hd, (cnt (fun i => head (i * m + b)) k : Int))).2 = (cnt (fun i => headDrop m b Ps t head (i * m + b)) k : Int)
  | 0, _ => ⟨h0, rfl⟩
  | t + 1, hP => by
    obtain ⟨h1, h2⟩ := drop_both hb h0 t (fun s hs => hP s (by omega))
    have hp := hP t (by omega)
    simp only [dropN, drop1]
    generalize dropN m b Ps t (hd, (cnt (fun i => head (i * m + b)) k : Int)) = st at h1 h2
    obtain ⟨H, x⟩ := st
    dsimp only at h1 h2
    have e1 := h1 (Ps t) hp
    dsimp only
    by_cases hq : headDrop m b Ps t head (Ps t * m + b) = true
    · rw [hq, if_pos rfl] at e1
      rw [if_pos e1]
      refine ⟨fun i hi => ?_, ?_⟩
      · by_cases e : i * m + b = Ps t * m + b
        · have e4 : headDrop m b Ps (t + 1) head (i * m + b) = false := if_pos e
          rw [e4]; show (if i * m + b = Ps t * m + b then (-1 : Int) else H (i * m + b)) = _; rw [if_pos e]; simp
        · have e4 : headDrop m b Ps (t + 1) head (i * m + b) = headDrop m b Ps t head (i * m + b) := if_neg e
          rw [e4]; show (if i * m + b = Ps t * m + b then (-1 : Int) else H (i * m + b)) = _; rw [if_neg e]; exact h1 i hi
      · dsimp only
        have := cnt_off (f := fun i => headDrop m b Ps t head (i * m + b)) (p := Ps t) hq k hp
        have e2 : cnt (fun i => headDrop m b Ps (t + 1) head (i * m + b)) k = cnt (fun i => if i = Ps t then false else headDrop m b Ps t head (i * m + b)) k := by
          apply cnt_congr
          intro i _
          dsimp only [headDrop]
          by_cases e : i = Ps t
          · rw [if_pos (by rw [e]), if_pos e]
          · rw [if_neg (fun e' => e (idx_inj hb hb e').1), if_neg e]
        rw [e2, h2, this]
        omega
    · have hq' : headDrop m b Ps t head (Ps t * m + b) = false := by simpa using hq
      rw [hq', if_neg (by simp)] at e1
      rw [if_neg (by rw [e1]; omega)]
      have same : ∀ i, headDrop m b Ps (t + 1) head (i * m + b) = headDrop m b Ps t head (i * m + b) := by
        intro i
        dsimp only [headDrop]
        by_cases e : i * m + b = Ps t * m + b
        · rw [if_pos e, e, hq']
        · rw [if_neg e]
      refine ⟨fun i hi => ?_, ?_⟩
      · rw [same]; exact h1 i hi
      · rw [cnt_congr k (fun i _ => same i)]; exact h2

/-- receive, against the model: the member itself -/
theorem mem_recv {m k b n plen : Nat} {Ps : Nat → Nat} {hd : Nat → Int} {lv : Int} {l : List Nat} {head recv : Nat → Bool} (hb : b < m) (hn : n < k) (hP : ∀ s, s < plen → Ps s < k) (h : Mem m k b hd lv l head recv n) :
    Mem m k b (fun i => if i = n * m + b then (n : Int) else (dropN m b Ps plen (hd, lv)).1 i) ((dropN m b Ps plen (hd, lv)).2 + 1)
      (recvHx m b n (fun i => if i = n * m + b then (n : Int) else (dropN m b Ps plen (hd, lv)).1 i) ((dropN m b Ps plen (hd, lv)).2 + 1) l)
      (fun x => if x = n * m + b then true else headDrop m b Ps plen head x) (fun x => if x = n * m + b then true else recv x) (n + 1) := by
  have hlv := h.lv_eq
  subst hlv
  obtain ⟨h1, h2⟩ := drop_both hb h.hd_eq plen hP
  generalize dropN m b Ps plen (hd, (cnt (fun i => head (i * m + b)) k : Int)) = st at h1 h2
  obtain ⟨H, x⟩ := st
  dsimp only at h1 h2 ⊢
  have hnn : headDrop m b Ps plen head (n * m + b) = false := headDrop_ge head n plen (h.later n (Nat.le_refl _))
  have hcnt : cnt (fun i => if i * m + b = n * m + b then true else headDrop m b Ps plen head (i * m + b)) k = cnt (fun i => headDrop m b Ps plen head (i * m + b)) k + 1 := by
    rw [← cnt_on (f := fun i => headDrop m b Ps plen head (i * m + b)) (p := n) hnn k hn]
    apply cnt_congr
    intro i _
    by_cases e : i = n
    · rw [if_pos (by rw [e]), if_pos e]
    · rw [if_neg (fun e' => e (idx_inj hb hb e').1), if_neg e]
  have hnl : n ∉ l := fun hh => by have := (h.lt n hh).1; omega
  have hnod : (l ++ [n]).Nodup := by
    rw [List.nodup_append]
    refine ⟨h.nodup, by simp, ?_⟩
    intro a ha b' hb' e
    rw [List.mem_singleton.1 hb'] at e
    exact hnl (e ▸ ha)
  have hhd : ∀ i, i < k → (if i * m + b = n * m + b then (n : Int) else H (i * m + b)) = if (if i * m + b = n * m + b then true else headDrop m b Ps plen head (i * m + b)) then (i : Int) else -1 := by
    intro i hi
    by_cases e : i * m + b = n * m + b
    · rw [if_pos e, if_pos e, (idx_inj hb hb e).1]; simp
    · rw [if_neg e, if_neg e]; exact h1 i hi
  have hmem : ∀ i, i < k → (if i * m + b = n * m + b then true else headDrop m b Ps plen head (i * m + b)) = true → i ∈ l ++ [n] := by
    intro i hi hh
    by_cases e : i * m + b = n * m + b
    · rw [(idx_inj hb hb e).1]; simp
    · rw [if_neg e] at hh
      refine List.mem_append_left _ (h.mem i hi ?_)
      cases hz : head (i * m + b)
      · rw [headDrop_ge head i plen hz] at hh; cases hh
      · rfl
  have hlt : ∀ y ∈ l ++ [n], y < n + 1 ∧ (if y * m + b = n * m + b then true else recv (y * m + b)) = true := by
    intro y hy
    rcases List.mem_append.1 hy with hy | hy
    · have := h.lt y hy
      refine ⟨by omega, ?_⟩
      split
      · rfl
      · exact this.2
    · rw [List.mem_singleton.1 hy]; simp
  refine ⟨hhd, ?_, ?_, ?_, ?_, ?_, ?_⟩
  · rw [h2, hcnt]; simp
  · unfold recvHx
    split
    · exact hnod.filter _
    · exact hnod
  · intro y hy
    unfold recvHx at hy
    split at hy
    · exact hlt y (List.mem_filter.1 hy).1
    · exact hlt y hy
  · intro i hi hh
    have := hmem i hi hh
    unfold recvHx
    split
    · refine List.mem_filter.2 ⟨this, ?_⟩
      have e := hhd i hi
      rw [hh] at e
      simp only [if_true] at e
      simpa using e
    · exact this
  · unfold recvHx
    split
    · rename_i hgt
      have hle := nodup_le (f := fun i => if i * m + b = n * m + b then true else headDrop m b Ps plen head (i * m + b)) (k := k) _ (hnod.filter (fun h => (if h * m + b = n * m + b then (n : Int) else H (h * m + b)) == (h : Int))) (by
        intro y hy
        have hy' := List.mem_filter.1 hy
        have hyk : y < k := by have := (hlt y hy'.1).1; omega
        refine ⟨hyk, ?_⟩
        have e := hhd y hyk
        have e2 : (if y * m + b = n * m + b then (n : Int) else H (y * m + b)) = (y : Int) := by simpa using hy'.2
        rw [e2] at e
        cases hz : (if y * m + b = n * m + b then true else headDrop m b Ps plen head (y * m + b))
        · rw [hz] at e; simp at e
        · rfl)
      rw [hcnt] at hle
      rw [h2]
      have hle' : ((l ++ [n]).filter (fun h => (fun i => if i = n * m + b then (n : Int) else H i) (h * m + b) == (h : Int))).length ≤ cnt (fun i => headDrop m b Ps plen head (i * m + b)) k + 1 := hle
      omega
    · rename_i hgt
      omega
  · intro i hi
    rw [if_neg (fun e => by have := (idx_inj hb hb e).1; omega)]
    exact headDrop_ge head i plen (h.later i (by omega))

/-- .. and every other member -/
theorem dropN_other {m b b' : Nat} {Ps : Nat → Nat} (hb : b < m) (hb' : b' < m) (ne : b' ≠ b) (hd : Nat → Int) (lv : Int) (i : Nat) : ∀ t, (dropN m b Ps t (hd, lv)).1 (i * m + b') = hd (i * m + b')
  | 0 => rfl
  | t + 1 => by
    have ih := dropN_other (Ps := Ps) hb hb' ne hd lv i t
    simp only [dropN, drop1]
    split
    · dsimp only
      rw [if_neg (fun e => ne (idx_inj hb' hb e).2)]
      exact ih
    · exact ih
theorem mem_other {m k b b' n plen B : Nat} {Ps : Nat → Nat} {hd : Nat → Int} {lv lv' : Int} {l : List Nat} {head recv : Nat → Bool} (hb : b < m) (hb' : b' < m) (ne : b' ≠ b) (h : Mem m k b' hd lv l head recv B) :
    Mem m k b' (fun i => if i = n * m + b then (n : Int) else (dropN m b Ps plen (hd, lv')).1 i) lv l
      (fun x => if x = n * m + b then true else headDrop m b Ps plen head x) (fun x => if x = n * m + b then true else recv x) B := by
  have e1 : ∀ i, ¬ i * m + b' = n * m + b := fun i e => ne (idx_inj hb' hb e).2
  have e2 : ∀ i, (if i * m + b' = n * m + b then true else headDrop m b Ps plen head (i * m + b')) = head (i * m + b') := fun i => by rw [if_neg (e1 i)]; exact headDrop_other hb hb' ne head i plen
  refine ⟨fun i hi => ?_, ?_, h.nodup, fun y hy => ⟨(h.lt y hy).1, ?_⟩, fun i hi hh => h.mem i hi (by rw [e2] at hh; exact hh), h.len, fun i hi => by rw [e2]; exact h.later i hi⟩
  · rw [if_neg (e1 i), dropN_other hb hb' ne, e2]; exact h.hd_eq i hi
  · rw [cnt_congr k (fun i _ => e2 i)]; exact h.lv_eq
  · rw [if_neg (e1 y)]; exact (h.lt y hy).2
end Go.Proofs.Ybulkcqyu
