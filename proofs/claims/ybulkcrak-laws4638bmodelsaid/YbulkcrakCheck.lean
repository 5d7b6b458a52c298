/-
  zzs4638bcheck (10), walked.
-/
import Derived.Test.YbulkcrakModel
import Derived.Test.YbulkcrakHeadB
import Derived.Laws.IdiomStrings
import Derived.Laws.BytesArg
namespace Go.Proofs.Ybulkcrak
set_option linter.unusedVariables false
set_option linter.unusedSimpArgs false
open Go.RowKit Go.Deep

theorem bytes_new (w : World) (s : ByteArray) : ∃ cap W', (convert 9 25 (.string s)).run Yba.prog w = .ok (.slice (some ⟨w.heap.size, 0, none⟩) s.size cap) W' ∧ SL W' (some ⟨w.heap.size, 0, none⟩) w.heap.size s.size cap (bt s) ∧ Chg (fun _ => False) w W' ∧ W'.heap.size = w.heap.size + 1 := by
  refine ⟨_, _, run_bytes_of_string w 9 25 5 s Yba.underlying9 Yba.underlying25 Yba.underlying5, ⟨grownCap_ge w s.size 0 5, .inr ⟨0, rfl, fun i hi => ?_⟩⟩, ((Chg.refl _ _).drew).alloc _, by simp⟩
  have hrow : (bytesRow s (grownCap w s.size 0 5))[i]? = some (.int .u8 (s[i].toNat : Int)) := by
    have hi' : i < s.data.size := hi
    unfold bytesRow
    rw [Array.getElem?_append_left (by simpa using hi')]
    simp only [Array.getElem?_map, Array.getElem?_eq_getElem hi', Option.map_some]
    rfl
  have := World.cell?_alloc_mark w.drew (bytesRow s (grownCap w s.size 0 5)) 5 ((bytesRow s (grownCap w s.size 0 5)).size, (bytesRow s (grownCap w s.size 0 5)).size + 1) i
  rw [Nat.zero_add, ← bt_eq s i hi]
  exact this.trans hrow

theorem strBt (a : ByteArray) (n : Nat) (hn : n ≤ a.size) : strOfNums ((List.range n).map (bt a)) = a.extract 0 n := by
  apply ByteArray.ext
  apply Array.ext
  · show (strOfNums ((List.range n).map (bt a))).size = (a.extract 0 n).size
    rw [strOfNums_size]; simp; omega
  · intro i h1 h2
    have hi : i < n := by
      have : i < (strOfNums ((List.range n).map (bt a))).size := h1
      rw [strOfNums_size] at this
      simpa using this
    have h3 : i < a.size := by omega
    have e1 : (strOfNums ((List.range n).map (bt a))).data[i] = UInt8.ofNat (bt a i).toNat := by
      simp [strOfNums]
    have e2 : (a.extract 0 n).data[i] = a[i] := by
      have := ByteArray.getElem_extract (b := a) (start := 0) (stop := n) (i := i) (h := by simpa using (show i < min n a.size by omega))
      simp only [Nat.zero_add] at this
      exact this
    rw [e1, e2, ← bt_eq a i h3]
    simp

theorem conv_back (w : World) (B n cap : Nat) (sa : Option Addr) (hsa : sa = some ⟨B, 0, none⟩) (a : ByteArray) (hn : n ≤ a.size) (h : SL w sa B a.size cap (bt a)) : (convert 25 9 (.slice sa n cap)).run Yba.prog w = .ok (.string (a.extract 0 n)) w := by
  subst hsa
  have := run_convert_bytes_arg (P := Yba.prog) w 25 5 Yba.underlying25 Yba.underlying5 B 0 n cap ((List.range n).map (bt a)) (by simp) (fun i hi => by
    rcases h.2 with h0 | ⟨o, hs, hc⟩
    · omega
    · simp only [Option.some.injEq, Addr.mk.injEq, and_true, true_and] at hs
      subst hs
      rw [hc i (by omega)]
      simp [hi]) 9 Yba.underlying9
  rw [this, strBt a n hn]

theorem HeadOk.unique {c h h' : ByteArray} (x : HeadOk c h) (y : HeadOk c h') : h = h' := by
  rcases x with ⟨i, e, p, q, hV, rfl⟩ | ⟨hno, rfl⟩
  · rcases y with ⟨i', e', p', q', hV', rfl⟩ | ⟨hno, _⟩
    · obtain ⟨_, _, rfl, _⟩ := hV.unique hV'; rfl
    · exact absurd hV (hno _ _ _ _)
  · rcases y with ⟨i', e', p', q', hV', _⟩ | ⟨_, h⟩
    · exact absurd hV' (hno _ _ _ _)
    · exact h.symm
theorem HeadOk.len {c h : ByteArray} (x : HeadOk c h) : HLen c h.size ∧ h.size ≤ c.size ∧ h = c.extract 0 h.size := by
  rcases x with ⟨i, e, p, q, hV, rfl⟩ | ⟨hno, rfl⟩
  · have h1 := hV.pq
    have h2 := hV.qn
    have hs : (c.extract 0 p).size = p := by simp; omega
    rw [hs]
    exact ⟨.inl ⟨i, e, q, hV⟩, by omega, rfl⟩
  · exact ⟨.inr ⟨hno, rfl⟩, Nat.le_refl _, (ext_all h).symm⟩
theorem HLen.unique {c : ByteArray} {p p' : Nat} (x : HLen c p) (y : HLen c p') : p = p' := by
  rcases x with ⟨i, e, q, hV⟩ | ⟨hno, rfl⟩
  · rcases y with ⟨i', e', q', hV'⟩ | ⟨hno, _⟩
    · exact (hV.unique hV').2.2.1
    · exact absurd hV (hno _ _ _ _)
  · rcases y with ⟨i', e', q', hV'⟩ | ⟨_, h⟩
    · exact absurd hV' (hno _ _ _ _)
    · exact h.symm

set_option maxHeartbeats 800000 in
theorem check_any (raw : ByteArray) (ha : raw.size ≤ 1024) (w : World) : Calls Yba.prog 10 #[.string raw] w fun e w' => e = .returned (.bool true) ∧ Chg (fun x => w.heap.size ≤ x) w w' := by
  go_enter Yba.func10, Yba.ntmps10
  go_wp2_with fail
  refine Calls.mono (model_any raw (by omega) w) ?_
  rintro e w0 ⟨want, rfl, hwant, hw0⟩
  rw [hw0]
  have HW : Hid (HeadOk (raw.extract 0 (cut raw)) want) := hwant
  clear hw0 hwant w0
  go_wp2_with fail
  refine Calls.mono (readLine_any raw (by omega) w) ?_
  rintro e W2 ⟨ki, nm, v, re, inh, pa, rfl, hc2, hok⟩
  have HC2 : Hid (Chg (fun x => w.heap.size ≤ x) w W2) := hc2
  have HOK : Hid (ReadOk (raw.extract 0 (cut raw)) v) := hok
  clear hc2 hok
  go_wp2_with fail
  obtain ⟨W2', hW2⟩ : ∃ W2', W2' = W2.alloc (.cells #[.string ki, .string nm, .string v, .string re, .bool inh, .string pa] 33) := ⟨_, rfl⟩
  have HC2' : Hid (Chg (fun x => w.heap.size ≤ x) w W2') := by rw [hW2]; exact HC2.out.alloc _
  rw [← hW2]
  clear hW2 HC2
  refine Calls.mono (head_any raw ki nm v re inh pa (by omega) W2' HOK) ?_
  rintro e W3 ⟨h, rfl, hhd, hc3⟩
  have HC3 : Hid (Chg (fun x => w.heap.size ≤ x) w W3) := HC2'.out.andThen hc3 (fun b hb hlt => by have := HC2'.out.size; omega)
  obtain rfl := HW.out.unique hhd
  clear hhd HC2' hc3 HOK
  obtain ⟨hHL, hsz, hex⟩ := HW.out.len
  have HHL : Hid (HLen (raw.extract 0 (cut raw)) want.size) := hHL
  have hcs : (raw.extract 0 (cut raw)).size = cut raw := by simp; have := cut_le raw; omega
  have hws : want.size ≤ raw.size := by have := cut_le raw; omega
  have HX : Hid (raw.extract 0 want.size = want) := by
    show raw.extract 0 want.size = want
    rw [ext_ext raw 0 (cut raw) 0 want.size (cut_le raw) (by omega)] at hex
    rw [Nat.zero_add, Nat.zero_add] at hex
    exact hex.symm
  clear hHL hsz hex hcs
  have e1 : (want.toList == want.toList) = true := beq_self_eq_true _
  have e2 : decide ((raw.size : Int) < (want.size : Int)) = false := by simp; omega
  have e3 : ((raw.extract 0 want.size).toList == want.toList) = true := by rw [HX.out]; exact beq_self_eq_true _
  obtain ⟨cap, W4, hcv, hsl, hc4, hs4⟩ := bytes_new W3 raw
  have HS4 : Hid (SL W4 (some ⟨W3.heap.size, 0, none⟩) W3.heap.size raw.size cap (bt raw)) := hsl
  have HC4 : Hid (Chg (fun x => w.heap.size ≤ x) w W4) := HC3.out.andThen hc4 (fun b hb _ => hb.elim)
  have HS4s : Hid (W4.heap.size = W3.heap.size + 1) := hs4
  clear hsl hc4 hs4 HC3
  go_wp2_with fail
  clear hcv e1 e2 e3
  have HB4 : Hid (W3.heap.size < W4.heap.size) := by have := HS4s.out; show W3.heap.size < W4.heap.size; omega
  refine Calls.mono (readLineB_any _ W3.heap.size cap raw (by omega) W4 HS4 HB4) ?_
  rintro e W5 ⟨ki', na', nn', nc', vb', m', vc', re', inh', pa', pn', pc', rfl, hc5, hok5⟩
  have HC5 : Hid (Chg (fun x => w.heap.size ≤ x) w W5) := HC4.out.andThen hc5 (fun b hb hlt => by have := HC4.out.size; omega)
  have HS5 : Hid (SL W5 (some ⟨W3.heap.size, 0, none⟩) W3.heap.size raw.size cap (bt raw)) := HS4.out.chg hc5 HB4.out (by have := HB4.out; omega)
  have HB5 : Hid (W3.heap.size < W5.heap.size) := Nat.lt_of_lt_of_le HB4.out hc5.size
  have HOK5 : Hid (LenOk (raw.extract 0 (cut raw)) m') := hok5
  clear hc5 hok5 HS4 HB4 HC4 HS4s
  go_wp2_with fail
  obtain ⟨W6, hW6⟩ : ∃ W6, W6 = W5.alloc (.cells #[.string ki', .slice na' nn' nc', .slice vb' m' vc', .string re', .bool inh', .slice pa' pn' pc'] 36) := ⟨_, rfl⟩
  have HC6 : Hid (Chg (fun x => w.heap.size ≤ x) w W6) := by rw [hW6]; exact HC5.out.alloc _
  have HS6 : Hid (SL W6 (some ⟨W3.heap.size, 0, none⟩) W3.heap.size raw.size cap (bt raw)) := by rw [hW6]; exact HS5.out.chg ((Chg.refl (fun _ => False) _).alloc _) HB5.out (fun h => h)
  have HB6 : Hid (W3.heap.size < W6.heap.size) := by rw [hW6]; have := HB5.out; simp; exact (show W3.heap.size < W5.heap.size + 1 by omega)
  rw [← hW6]
  clear hW6 HC5 HS5 HB5
  refine Calls.mono (headB_any _ W3.heap.size cap raw ki' na' nn' nc' vb' m' vc' re' inh' pa' pn' pc' (by omega) W6 HS6 HB6 HOK5) ?_
  rintro e W7 ⟨hl, rfl, hhl, hc7⟩
  obtain rfl := HHL.out.unique hhl
  have HC7 : Hid (Chg (fun x => w.heap.size ≤ x) w W7) := HC6.out.andThen hc7 (fun b hb hlt => by have := HC6.out.size; omega)
  have HS7 : Hid (SL W7 (some ⟨W3.heap.size, 0, none⟩) W3.heap.size raw.size cap (bt raw)) := HS6.out.chg hc7 HB6.out (by have := HB6.out; omega)
  clear hhl hc7 HC6 HS6 HB6 HOK5
  have hcv1 := conv_back W7 W3.heap.size want.size cap _ rfl raw hws HS7.out
  have hcv2 := conv_back W7 W3.heap.size raw.size cap _ rfl raw (Nat.le_refl _) HS7.out
  rw [HX.out] at hcv1
  rw [ext_all] at hcv2
  have e1 : (want.toList == want.toList) = true := beq_self_eq_true _
  have e2 : (raw.toList == raw.toList) = true := beq_self_eq_true _
  go_wp2_with fail
  go_ret
  exact ⟨rfl, HC7.out⟩
end Go.Proofs.Ybulkcrak
