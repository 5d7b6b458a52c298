/-
  What stands in memory of a simulator ('Sim'), and what (*simulator).receive's steps make of it: no walk here.
-/
import Derived.Test.YbulkcqyuBComp
import Derived.Test.YbulkcqyuOrders
namespace Go.Proofs.Ybulkcqyu
set_option linter.unusedVariables false
set_option linter.unusedSimpArgs false
open Go.RowKit Go.Deep

theorem Yba.info3 : (Yba.prog.info? 3).map (fun i => (i.zero, i.size, i.bytes)) = some (some (.int .i64 0), 1, 8) := by kernel_rfl
theorem idx_toNat (n m j : Nat) : ((n : Int) * (m : Int) + (j : Int)).toNat = n * m + j := by
  have : ((n * m + j : Nat) : Int) = (n : Int) * (m : Int) + (j : Int) := by simp
  omega

/-- one parent given up by member j -/
def drop1 (m j : Nat) (st : (Nat → Int) × Int) (p : Nat) : (Nat → Int) × Int :=
  if st.1 (p * m + j) = (p : Int) then (fun x => if x = p * m + j then -1 else st.1 x, st.2 - 1) else st
def dropN (m j : Nat) (Ps : Nat → Nat) : Nat → (Nat → Int) × Int → (Nat → Int) × Int
  | 0, st => st
  | t + 1, st => drop1 m j (dropN m j Ps t st) (Ps t)
theorem dropN_lv (m j : Nat) (Ps : Nat → Nat) (st : (Nat → Int) × Int) : ∀ t : Nat, st.2 - t ≤ (dropN m j Ps t st).2 ∧ (dropN m j Ps t st).2 ≤ st.2
  | 0 => by simp [dropN]
  | t + 1 => by
    have := dropN_lv m j Ps st t
    simp only [dropN, drop1]
    split <;> omega

/-- numbers as cells -/
def ints (l : List Nat) : List Value := l.map (fun x : Nat => Value.int .i64 (x : Int))

/-- What stands in memory of a simulator, in world w. -/
structure Sim (w : World) (base b0 bs bp bh bhd bl m k : Nat) (hd lv : Nat → Int) (hv : Nat → Value) (hx : Nat → List Nat) : Prop where
  c0 : w.cell? ⟨bs, 0, none⟩ = some (.pointer (some ⟨b0, 0, none⟩))
  c1 : w.cell? ⟨b0, 0, none⟩ = some (.int .i64 m)
  c2 : w.cell? ⟨bs, 2, none⟩ = some (.int .i64 k)
  c5 : w.cell? ⟨bs, 5, none⟩ = some (.slice (some ⟨bp, 0, none⟩) k k)
  c7 : w.cell? ⟨bs, 7, none⟩ = some (.slice (some ⟨bh, 0, none⟩) (k * m) (k * m))
  c8 : w.cell? ⟨bs, 8, none⟩ = some (.slice (some ⟨bhd, 0, none⟩) m m)
  c9 : w.cell? ⟨bs, 9, none⟩ = some (.slice (some ⟨bl, 0, none⟩) m m)
  rh : w.rowIs bh 3 (k * m) (fun i => .int .i64 (hd i))
  rl : w.rowIs bl 3 m (fun i => .int .i64 (lv i))
  rhd : w.rowIs bhd 33 m hv
  own : ∀ i, i < m → w.ownsRow base 3 1 (hv i) (hx i).length (ints (hx i))
  apart : ∀ i i', i < m → i' < m → i ≠ i' → ∀ g, (hv i).ownBlock = some g → (hv i').ownBlock ≠ some g

/-- Which blocks are which. -/
structure Lay (base b0 bs bp bh bhd bl : Nat) : Prop where
  l0 : b0 < base
  ls : bs < base
  lp : bp < base
  lh : bh < base
  lhd : bhd < base
  ll : bl < base
  n1 : bs ≠ bh
  n2 : bs ≠ bl
  n3 : bs ≠ bhd
  n4 : b0 ≠ bh
  n5 : b0 ≠ bl
  n6 : b0 ≠ bhd
  n7 : bp ≠ bh
  n8 : bp ≠ bl
  n9 : bp ≠ bhd
  n10 : bh ≠ bl
  n11 : bh ≠ bhd
  n12 : bl ≠ bhd


theorem getD_lt {l : List Nat} {t : Nat} (h : t < l.length) : l.getD t 0 = l[t] := by simp [h]
theorem ints_append (a b : List Nat) : ints (a ++ b) = ints a ++ ints b := by simp [ints]
theorem ints_length (a : List Nat) : (ints a).length = a.length := by simp [ints]

section
variable {w W2 W4 : World} {base b0 bs bp bh bhd bl m k : Nat} {hd lv : Nat → Int} {hv : Nat → Value} {hx : Nat → List Nat} {hd' lv' : Nat → Int} {j n g cap : Nat}

/-- behind 's.heads[member] = append(s.heads[member], n)' -/
theorem sim_append (L : Lay base b0 bs bp bh bhd bl) (hS : Sim w base b0 bs bp bh bhd bl m k hd lv hv hx) (hbase : base ≤ w.heap.size) (hj : j < m)
    (h2 : Chg (fun b => b = bh ∨ b = bl) w W2) (rh2 : W2.rowIs bh 3 (k * m) (fun i => .int .i64 (hd' i))) (rl2 : W2.rowIs bl 3 m (fun i => .int .i64 (lv' i)))
    (h4 : Chg (fun b => (hv j).ownBlock = some b) W2 W4) (hat : (hv j).ownBlock = some g ∨ g = W2.heap.size + 1)
    (hown : W4.ownsRow base 3 1 (.slice (some ⟨g, 0, none⟩) ((hx j).length + 1) cap) ((hx j).length + 1) (ints (hx j) ++ [.int .i64 (n : Int)])) :
    Sim (W4.setCell ⟨bhd, j, none⟩ (.slice (some ⟨g, 0, none⟩) ((hx j).length + 1) cap)) base b0 bs bp bh bhd bl m k hd' lv' (fun i => if i = j then .slice (some ⟨g, 0, none⟩) ((hx j).length + 1) cap else hv i) (fun i => if i = j then hx j ++ [n] else hx i) ∧
    Chg (fun b => b = bh ∨ b = bl ∨ b = bhd ∨ (hv j).ownBlock = some b) w (W4.setCell ⟨bhd, j, none⟩ (.slice (some ⟨g, 0, none⟩) ((hx j).length + 1) cap)) ∧
    ((hv j).ownBlock = some g ∨ w.heap.size ≤ g) ∧ base ≤ g := by
  obtain ⟨l0, ls, lp, lh, lhd, ll, n1, n2, n3, n4, n5, n6, n7, n8, n9, n10, n11, n12⟩ := L
  have hlt := fun i hi => (hS.own i hi).lt
  have c4 : Chg (fun b => b = bh ∨ b = bl ∨ (hv j).ownBlock = some b) w W4 := (h2.mono (fun b h => by rcases h with h | h; exact .inl h; exact .inr (.inl h))).trans (h4.mono (fun b h => .inr (.inr h)))
  have hoj : ∀ b, (hv j).ownBlock = some b → base ≤ b ∧ b < w.heap.size := hlt j hj
  have far : ∀ b, b < base → b ≠ bh → b ≠ bl → ¬ (b = bh ∨ b = bl ∨ (hv j).ownBlock = some b) := by
    intro b hb e1 e2 h
    rcases h with h | h | h
    · exact e1 h
    · exact e2 h
    · have := hoj b h; omega
  have nown : ∀ b, b < base → (hv j).ownBlock ≠ some b := fun b hb h => by have := hoj b h; omega
  have cell5 : ∀ p : Addr, p.block < base → p.block ≠ bh → p.block ≠ bl → p.block ≠ bhd → (W4.setCell ⟨bhd, j, none⟩ (.slice (some ⟨g, 0, none⟩) ((hx j).length + 1) cap)).cell? p = w.cell? p := by
    intro p a b c d
    rw [World.cell?_setCell_far _ _ _ _ (fun e => d e.symm)]
    exact c4.cell (by omega) (far _ a b c)
  have rhd4 : W4.rowIs bhd 33 m hv := c4.row hS.rhd (far _ lhd n11.symm n12.symm)
  have hgb : base ≤ g := by
    rcases hat with h | h
    · exact (hoj g h).1
    · have := h2.size; omega
  have hgw : (hv j).ownBlock = some g ∨ w.heap.size ≤ g := by
    rcases hat with h | h
    · exact .inl h
    · have := h2.size; exact .inr (by omega)
  refine ⟨⟨?_, ?_, ?_, ?_, ?_, ?_, ?_, ?_, ?_, ?_, ?_, ?_⟩, ?_, hgw, hgb⟩
  · rw [cell5 _ ls n1 n2 n3]; exact hS.c0
  · rw [cell5 _ l0 n4 n5 n6]; exact hS.c1
  · rw [cell5 _ ls n1 n2 n3]; exact hS.c2
  · rw [cell5 _ ls n1 n2 n3]; exact hS.c5
  · rw [cell5 _ ls n1 n2 n3]; exact hS.c7
  · rw [cell5 _ ls n1 n2 n3]; exact hS.c8
  · rw [cell5 _ ls n1 n2 n3]; exact hS.c9
  · exact (h4.row rh2 (nown _ lh)).setOther (by exact n11) _
  · exact (h4.row rl2 (nown _ ll)).setOther (by exact n12) _
  · exact rhd4.set j _
  · intro i hi
    have c5 : Chg (fun b => b = bhd) W4 (W4.setCell ⟨bhd, j, none⟩ (.slice (some ⟨g, 0, none⟩) ((hx j).length + 1) cap)) := (Chg.refl (fun b => b = bhd) W4).setCell (p := ⟨bhd, j, none⟩) (fun _ => rfl) _
    by_cases e : i = j
    · subst e
      simp only [if_true]
      have : (hx i ++ [n]).length = (hx i).length + 1 := by simp
      rw [this, ints_append]
      exact c5.owns hown (fun b hb h => by simp [Value.ownBlock] at hb; omega)
    · simp only [if_neg e]
      refine c5.owns (c4.owns (hS.own i hi) (fun b hb h => ?_)) (fun b hb h => ?_)
      · have := hlt i hi b hb
        rcases h with h | h | h
        · omega
        · omega
        · exact hS.apart i j hi hj e b hb h
      · have := hlt i hi b hb; omega
  · intro i i' hi hi' ne b hb hb'
    by_cases e : i = j
    · subst e
      rw [if_pos rfl] at hb
      rw [if_neg (fun h => ne h.symm)] at hb'
      simp only [Value.ownBlock, Option.some.injEq] at hb
      subst hb
      have := hlt i' hi' g hb'
      rcases hat with h | h
      · exact hS.apart i i' hi hi' ne g h hb'
      · have := h2.size; omega
    · rw [if_neg e] at hb
      by_cases e' : i' = j
      · subst e'
        rw [if_pos rfl] at hb'
        simp only [Value.ownBlock, Option.some.injEq] at hb'
        subst hb'
        have := hlt i hi g hb
        rcases hat with h | h
        · exact hS.apart i i' hi hi' ne g hb h
        · have := h2.size; omega
      · rw [if_neg e'] at hb'
        exact hS.apart i i' hi hi' ne b hb hb'
  · exact (c4.mono (fun b h => by rcases h with h | h | h; exact .inl h; exact .inr (.inl h); exact .inr (.inr (.inr h)))).setCell (fun _ => .inr (.inr (.inl rfl))) _

/-- the numbers that compact keeps, as a list of naturals -/
theorem kept_heads (hd : Nat → Int) (m j : Nat) (l : List Nat) : kept (fun x : Int => hd (x.toNat * m + j) != x) (fun t => ((l.getD t 0 : Nat) : Int)) l.length = (l.filter (fun h => hd (h * m + j) == (h : Int))).map (fun x : Nat => (x : Int)) := by
  have h : (List.range l.length).map (fun t => ((l.getD t 0 : Nat) : Int)) = l.map (fun x : Nat => (x : Int)) := by
    apply List.ext_getElem
    · simp
    · intro i h1 h2
      simp at h1 h2
      simp [h1]
  unfold kept
  rw [h, List.filter_map]
  congr 1
  apply List.filter_congr
  intro x _
  simp [bne]

/-- what receive makes of a member's list -/
def recvHx (m j n : Nat) (hd : Nat → Int) (lv : Int) (l : List Nat) : List Nat :=
  if 2 * lv + 8 < ((l ++ [n]).length : Int) then (l ++ [n]).filter (fun h => hd (h * m + j) == (h : Int)) else l ++ [n]

/-- behind compact -/
theorem sim_compact {w w' : World} {n' : Nat} (L : Lay base b0 bs bp bh bhd bl) (hS : Sim w base b0 bs bp bh bhd bl m k hd lv hv hx) (hbase : base ≤ w.heap.size) (hj : j < m)
    (hvj : hv j = .slice (some ⟨g, 0, none⟩) (hx j).length cap) (hcap : cap ≤ maxLen) (hnc : (hx j).length ≤ cap)
    (hc : Chg (fun b => b = g ∨ b = bhd) w w') (rhd' : w'.rowIs bhd 33 m (fun i => if i = j then .slice (some ⟨g, 0, none⟩) n' cap else hv i))
    (q : Nat → Bool) (en : n' = ((hx j).filter q).length) (F : Nat → Value) (rg : w'.rowIs g 3 cap F) (hF : ∀ t, t < n' → F t = .int .i64 ((((hx j).filter q).map (fun x : Nat => (x : Int))).getD t 0)) :
    Sim w' base b0 bs bp bh bhd bl m k hd lv (fun i => if i = j then .slice (some ⟨g, 0, none⟩) n' cap else hv i) (fun i => if i = j then (hx j).filter q else hx i) := by
  obtain ⟨l0, ls, lp, lh, lhd, ll, n1, n2, n3, n4, n5, n6, n7, n8, n9, n10, n11, n12⟩ := L
  have hlt := fun i hi => (hS.own i hi).lt
  have hg := hlt j hj g (by rw [hvj]; rfl)
  have cell5 : ∀ p : Addr, p.block < base → p.block ≠ bhd → w'.cell? p = w.cell? p := fun p a d => hc.cell (by omega) (fun h => by rcases h with h | h; omega; exact d h)
  have row5 : ∀ {b t n f}, w.rowIs b t n f → b < base → b ≠ bhd → w'.rowIs b t n f := fun hr a d => hc.row hr (fun h => by rcases h with h | h; omega; exact d h)
  refine ⟨?_, ?_, ?_, ?_, ?_, ?_, ?_, row5 hS.rh lh n11, row5 hS.rl ll n12, rhd', ?_, ?_⟩
  · rw [cell5 _ ls n3]; exact hS.c0
  · rw [cell5 _ l0 n6]; exact hS.c1
  · rw [cell5 _ ls n3]; exact hS.c2
  · rw [cell5 _ ls n3]; exact hS.c5
  · rw [cell5 _ ls n3]; exact hS.c7
  · rw [cell5 _ ls n3]; exact hS.c8
  · rw [cell5 _ ls n3]; exact hS.c9
  · intro i hi
    by_cases e : i = j
    · subst e
      simp only [if_true]
      rw [← en]
      have hle := List.length_filter_le q (hx i)
      refine ownsOfRow rg hg.1 (by omega) hcap (by rw [ints_length]; exact en.symm) (fun t ht => ?_)
      rw [hF t ht]
      rw [en] at ht
      simp [ints, ht]
    · simp only [if_neg e]
      refine hc.owns (hS.own i hi) (fun b hb h => ?_)
      have := hlt i hi b hb
      rcases h with h | h
      · subst h; exact hS.apart i j hi hj e b hb (by rw [hvj]; rfl)
      · omega
  · intro i i' hi hi' ne b hb hb'
    have hb1 : (hv i).ownBlock = some b := by
      by_cases e : i = j
      · rw [if_pos e] at hb; rw [e, hvj]; exact hb
      · rw [if_neg e] at hb; exact hb
    have hb2 : (hv i').ownBlock = some b := by
      by_cases e : i' = j
      · rw [if_pos e] at hb'; rw [e, hvj]; exact hb'
      · rw [if_neg e] at hb'; exact hb'
    exact hS.apart i i' hi hi' ne b hb1 hb2

theorem Sim.drewN (h : Sim w base b0 bs bp bh bhd bl m k hd lv hv hx) (q : Nat) : Sim (w.drewN q) base b0 bs bp bh bhd bl m k hd lv hv hx :=
  ⟨h.c0, h.c1, h.c2, h.c5, h.c7, h.c8, h.c9, h.rh, h.rl, h.rhd, h.own, h.apart⟩

/-- What receive leaves. -/
def RecvPost (w w' : World) (base b0 bs bp bh bhd bl m k : Nat) (hd' lv' : Nat → Int) (hv : Nat → Value) (hx : Nat → List Nat) (j n : Nat) : Prop :=
  ∃ hv' hx', Sim w' base b0 bs bp bh bhd bl m k hd' lv' hv' hx' ∧ (∀ i, i ≠ j → hv' i = hv i ∧ hx' i = hx i) ∧ hx' j = recvHx m j n hd' (lv' j) (hx j) ∧
    Chg (fun b => b = bh ∨ b = bl ∨ b = bhd ∨ (hv j).ownBlock = some b) w w' ∧ ((hv' j).ownBlock = (hv j).ownBlock ∨ ∃ g, (hv' j).ownBlock = some g ∧ w.heap.size ≤ g)

/-- the list is short enough: no compact -/
theorem recv_short {W5 : World} {x : Int} (q : Nat) (hS : Sim W5 base b0 bs bp bh bhd bl m k hd' lv' (fun i => if i = j then .slice (some ⟨g, 0, none⟩) ((hx j).length + 1) cap else hv i) (fun i => if i = j then hx j ++ [n] else hx i))
    (hc : Chg (fun b => b = bh ∨ b = bl ∨ b = bhd ∨ (hv j).ownBlock = some b) w W5) (hg : (hv j).ownBlock = some g ∨ w.heap.size ≤ g) (hx' : lv' j = x) (hle : ¬ 2 * x + 8 < (((hx j).length + 1 : Nat) : Int)) :
    RecvPost w (W5.drewN q) base b0 bs bp bh bhd bl m k hd' lv' hv hx j n := by
  refine ⟨_, _, hS.drewN q, fun i hi => ⟨if_neg hi, if_neg hi⟩, ?_, hc.drewN q, ?_⟩
  · simp only [if_true]
    unfold recvHx
    rw [if_neg]
    rw [hx']; simpa using hle
  · simp only [if_true]
    rcases hg with h | h
    · exact .inl h.symm
    · exact .inr ⟨g, rfl, h⟩

/-- .. and with it -/
theorem recv_long {W5 w6 : World} {x : Int} {n' : Nat} {F : Nat → Value} (L : Lay base b0 bs bp bh bhd bl) (hj : j < m) (hbase : base ≤ w.heap.size) (hcap : cap ≤ maxLen) (hnc : (hx j).length + 1 ≤ cap)
    (hS : Sim W5 base b0 bs bp bh bhd bl m k hd' lv' (fun i => if i = j then .slice (some ⟨g, 0, none⟩) ((hx j).length + 1) cap else hv i) (fun i => if i = j then hx j ++ [n] else hx i))
    (hc : Chg (fun b => b = bh ∨ b = bl ∨ b = bhd ∨ (hv j).ownBlock = some b) w W5) (hg : (hv j).ownBlock = some g ∨ w.heap.size ≤ g) (hx' : lv' j = x) (hgt : 2 * x + 8 < (((hx j).length + 1 : Nat) : Int))
    (h6 : Chg (fun b => b = g ∨ b = bhd) W5 w6) (rhd' : w6.rowIs bhd 33 m (fun i => if i = j then .slice (some ⟨g, 0, none⟩) n' cap else (fun i => if i = j then .slice (some ⟨g, 0, none⟩) ((hx j).length + 1) cap else hv i) i))
    (en : n' = (kept (fun x : Int => hd' (x.toNat * m + j) != x) (fun t => (((hx j ++ [n]).getD t 0 : Nat) : Int)) ((hx j).length + 1)).length) (rg : w6.rowIs g 3 cap F)
    (hF : ∀ t, t < n' → F t = .int .i64 ((kept (fun x : Int => hd' (x.toNat * m + j) != x) (fun t => (((hx j ++ [n]).getD t 0 : Nat) : Int)) ((hx j).length + 1)).getD t 0)) :
    RecvPost w w6 base b0 bs bp bh bhd bl m k hd' lv' hv hx j n := by
  have hl : (hx j).length + 1 = (hx j ++ [n]).length := by simp
  have hk := kept_heads hd' m j (hx j ++ [n])
  rw [hl, hk] at en hF
  have h := sim_compact (j := j) L hS (Nat.le_trans hbase hc.size) hj (by simp) hcap (by simpa using hnc) h6 rhd' (fun h => hd' (h * m + j) == (h : Int)) (by simpa using en) F rg (by simpa using hF)
  refine ⟨_, _, h, fun i hi => ⟨?_, ?_⟩, ?_, hc.andThen h6 (fun b hb hlt => ?_), ?_⟩
  · rw [if_neg hi, if_neg hi]
  · rw [if_neg hi, if_neg hi]
  · simp only [if_true]
    unfold recvHx
    rw [if_pos]
    rw [hx']; simpa using hgt
  · rcases hb with hb | hb
    · subst hb
      rcases hg with h | h
      · exact .inr (.inr (.inr h))
      · omega
    · exact .inr (.inr (.inl hb))
  · simp only [if_true]
    rcases hg with h | h
    · exact .inl h.symm
    · exact .inr ⟨g, rfl, h⟩
end
end Go.Proofs.Ybulkcqyu
