/-
  LawS4635BHeads (3), walked.
-/
import Derived.Test.YbulkcqyuBBig
import Derived.Test.YbulkcqyuBRecv
namespace Go.Proofs.Ybulkcqyu
set_option linter.unusedVariables false
set_option linter.unusedSimpArgs false
open Go.RowKit Go.Deep

theorem Yba.info4 : (Yba.prog.info? 4).map (fun i => (i.zero, i.size, i.bytes)) = some (some (.bool false), 1, 1) := by kernel_rfl

theorem nodup_idx {l : List Nat} (h : l.Nodup) {i j : Nat} (hi : i < l.length) (hj : j < l.length) (e : l[i] = l[j]) : i = j := by
  rcases Nat.lt_trichotomy i j with h1 | h1 | h1
  · exact absurd e (List.pairwise_iff_getElem.1 h i j hi hj h1)
  · exact h1
  · exact absurd e.symm (List.pairwise_iff_getElem.1 h j i hj hi h1)

set_option maxRecDepth 100000 in
set_option maxHeartbeats 2000000 in
theorem heads_any (mem : Int) (hmem : 0 ≤ mem ∧ mem ≤ 255) (sa : Option Addr) (sb so len cap : Nat) (Me Pa : Nat → Int) (w : World)
    (hst : Hid (∀ i, i < len → sa = some ⟨sb, so, none⟩ ∧ w.cell? ⟨sb, so + i * 2, none⟩ = some (.int .u16 (Me i)) ∧ w.cell? ⟨sb, so + i * 2 + 1, none⟩ = some (.int .u64 (Pa i))))
    (hb : Hid (∀ i, i < len → (0 ≤ Me i ∧ Me i ≤ 65535) ∧ 0 ≤ Pa i ∧ Pa i ≤ 18446744073709551615))
    (h1 : 1 ≤ len) (h300 : len ≤ 300) :
    Calls Yba.prog 3 #[.int .u8 mem, .slice sa len cap] w fun e w' => e = .returned (.bool true) ∧ Below w.heap.size w w' := by
  obtain ⟨m, hm⟩ : ∃ m : Nat, 1 + mem % 16 = (m : Int) := ⟨(1 + mem % 16).toNat, by omega⟩
  have hm1 : 1 ≤ m := by omega
  have hm16 : m ≤ 16 := by omega
  have HM : Hid (1 + mem % 16 = (m : Int)) := hm
  clear hm
  have hd300 : decide ((300 : Int) < (len : Int)) = false := by simp; omega
  have hkm : len * m ≤ 4800 := by have := Nat.mul_le_mul h300 hm16; omega
  go_enter Yba.func3, Yba.ntmps3
  go_wp2_with fail
  rw [HM.out]
  refine (newSim_any w.heap.size m len _ h1 h300 hm1 hm16 (by simp [go_sem]) (by simp [go_sem]) (by simp [go_sem]) (by simp [go_sem])).mono ?_
  rintro e W1 ⟨bs, bp, bh, bhd, bl, rfl, hF⟩
  have hstart := big_start rfl rfl hF
  have d2 := hF.c2
  clear hF
  have hb1 : (1 : Nat) * (m * len) ≤ 281474976710656 := by rw [Nat.mul_comm m len]; omega
  have hmk : ∀ w : World, (Instr.makeSlice 38 (.int .i64 ((m : Int) * (len : Int))) (.int .i64 ((m : Int) * (len : Int)))).run Yba.prog w = .ok (.slice (some ⟨w.heap.size, 0, none⟩) (m * len) (m * len)) (w.alloc (.cells (madeCells #[.bool false] (m * len)) 4)) := by
    intro w
    have := run_make_row' (P := Yba.prog) 38 4 (.bool false) 1 Yba.underlying38 Yba.info4 rfl .i64 .i64 (m * len) hb1 (by omega) w
    rw [show ((m * len : Nat) : Int) = (m : Int) * (len : Int) by simp] at this
    exact this
  have hml : 0 ≤ (m : Int) * (len : Int) := Int.mul_nonneg (by omega) (by omega)
  have hml' : (m : Int) * (len : Int) ≤ 4800 := by have := Int.ofNat_le.2 hkm; rw [Int.mul_comm]; simpa using this
  have ne : (len == 0) = false := by rw [beq_eq_false_iff_ne]; omega
  have LB : Hid _ := hstart.1
  have BG : Hid _ := hstart.2
  clear hstart
  go_wp2_with fail
  clear d2 hmk hb1 ne
  obtain ⟨W2, hW2⟩ : ∃ W2, W2 = ((W1.alloc (.cells (madeCells #[.bool false] (m * len)) 4)).alloc (.cells (madeCells #[.bool false] (m * len)) 4)) := ⟨_, rfl⟩
  rw [← hW2] at BG ⊢
  clear hW2
  generalize W1.heap.size = be at LB BG ⊢
  go_loopw [11] (fun v wr => ∃ i : Nat, i ≤ len ∧ v = .int .i64 i ∧ Hid (∃ hd lv hv hx head recv PV, Big w wr (be + 2) w.heap.size bs bp bh bhd bl be (be + 1) m len hd lv hv hx head recv PV ∧ ∀ b, b < m → Mem m len b hd (lv b) (hx b) head recv i)) (fun v _ => len - (intOf v).toNat)
  case atStart => exact ⟨0, Nat.zero_le _, rfl, _, _, _, _, _, _, _, BG.out, fun b _ => mem_start m len b⟩
  case round =>
    rename World => Wi
    obtain ⟨i, hi, rfl, HR⟩ := hrel
    clear BG
    by_cases hlt : i < len
    · obtain ⟨rfl, c1, c2⟩ := hst.out i hlt
      obtain ⟨⟨m1, m2⟩, p1, p2⟩ := hb.out i hlt
      obtain ⟨me, hme⟩ : ∃ x, Me i = x := ⟨_, rfl⟩
      obtain ⟨pa, hpa⟩ : ∃ x, Pa i = x := ⟨_, rfl⟩
      rw [hme] at c1 m1 m2
      rw [hpa] at c2 p1 p2
      clear hme hpa hb hst
      obtain ⟨hd, lv, hv, hx, head, recv, PV, hBig, hMem⟩ := HR.out
      have d1 : Wi.cell? ⟨sb, so + i * 2, none⟩ = some (.int .u16 me) := (hBig.old.cell (World.block_lt_of_cell? w _ c1) (fun h => h)).trans c1
      have d2 : Wi.cell? ⟨sb, so + i * 2 + 1, none⟩ = some (.int .u64 pa) := (hBig.old.cell (World.block_lt_of_cell? w _ c2) (fun h => h)).trans c2
      have BG : Hid (Big w Wi (be + 2) w.heap.size bs bp bh bhd bl be (be + 1) m len hd lv hv hx head recv PV) := hBig
      have MM : Hid (∀ b, b < m → Mem m len b hd (lv b) (hx b) head recv i) := hMem
      clear hBig hMem HR c1 c2
      go_wp2_with fail
      obtain ⟨W3, hW3⟩ : ∃ W3, W3 = Wi.alloc (.cells #[.int .u16 me, .int .u64 pa] 41) := ⟨_, rfl⟩
      have sz3 : W3.heap.size = Wi.heap.size + 1 := by rw [hW3]; exact nblk_alloc _ _
      have a0 : W3.cell? ⟨Wi.heap.size, 0, none⟩ = some (.int .u16 me) := by rw [hW3]; simp [go_sem]
      have a1 : W3.cell? ⟨Wi.heap.size, 1, none⟩ = some (.int .u64 pa) := by rw [hW3]; simp [go_sem]
      have HC3 : Hid (Chg (fun _ => False) Wi W3) := by rw [hW3]; exact (Chg.refl _ _).alloc _
      rw [← hW3]
      clear hW3 d1 d2
      obtain ⟨i0, hi0, hz0, hz1, hz2⟩ := info_parts Yba.info3
      go_loopw [13, 14] (fun v j wq => ∃ (jn : Nat) (ps : List Nat), jn ≤ 64 ∧ j = .int .i64 ((jn : Int) - 1) ∧ ps.length + jn ≤ 64 ∧ Hid (Chg (fun _ => False) W3 wq ∧ wq.ownsRow W3.heap.size 3 1 v ps.length (ints ps) ∧ ∀ p ∈ ps, p < i)) (fun _ j _ => (intOf j + 1).toNat)
      case atStart => exact ⟨64, [], Nat.le_refl _, rfl, by simp, Chg.refl _ _, World.ownsRow_nil _ _ _ _, fun p hp => by cases hp⟩
      case round =>
        rename World => Wq
        obtain ⟨jn, ps, hjn, rfl, hpl, HQ⟩ := hrel
        by_cases hj0 : jn = 0
        · subst hj0
          obtain ⟨hcq, hoq, hpq⟩ := HQ.out
          have hBq := BG.out.grow (HC3.out.trans hcq)
          obtain ⟨ap, gp, pcap, rfl, hap, hg1, hg2, hpl2, hgc⟩ := ps_form (d := Wi.heap.size) hoq (by have := hcq.size; omega) (by omega)
          have e5 := hBq.sim.c5
          have e6 := hBq.rp.cell hlt
          have f6 := hBq.rp.frozen i
          have hps : Hid (∀ t, t < ps.length → ps.getD t 0 < len) := fun t ht => by rw [getD_lt ht]; have := hpq _ (List.getElem_mem ht); omega
          have HT : Hid (Turn w (Wq.setCell ⟨bp, i, none⟩ (.slice ap ps.length pcap)) (be + 2) w.heap.size bs bp bh bhd bl be (be + 1) m len hd lv hv hx head recv (fun j => if j = i then (.slice ap ps.length pcap) else PV j) i Wi.heap.size gp ps.length (.slice ap ps.length pcap) me pa (fun t => ps.getD t 0)) :=
            turn_start LB.out BG.out HC3.out hcq a0 a1 hg1 hgc
          have HG : Hid (gp < (Wq.setCell ⟨bp, i, none⟩ (.slice ap ps.length pcap)).heap.size) := by rw [Hid, nblk_setCell]; exact hg2
          have HA : Hid (0 < ps.length → ap = some ⟨gp, 0, none⟩) := hap
          clear hBq hcq hoq hpq HQ hpl2 hgc hap BG HC3 a0 a1 hi0 hz0 hz1 hz2 sz3 hg1 hg2
          go_wp2_with fail
          clear e5 e6 f6
          have hpl64 : ps.length ≤ 64 := by omega
          generalize ps.length = plen at *
          generalize hPs : (fun t => ps.getD t 0) = Ps at HT
          have hps2 : Hid (∀ t, t < plen → Ps t < len) := by rw [← hPs]; exact hps
          clear hPs hps
          generalize Wi.heap.size = stb at *
          go_loopw [16] (fun v wb => ∃ b : Nat, b ≤ m ∧ v = .int .i64 b ∧ Hid (∃ hd lv hv hx head recv PV, Turn w wb (be + 2) w.heap.size bs bp bh bhd bl be (be + 1) m len hd lv hv hx head recv PV i stb gp plen (.slice ap plen pcap) me pa Ps ∧ gp < wb.heap.size ∧ ∀ c, c < m → Mem m len c hd (lv c) (hx c) head recv (if c < b then i + 1 else i))) (fun v _ => m - (intOf v).toNat)
          case atStart => exact ⟨0, Nat.zero_le _, rfl, _, _, _, _, _, _, _, HT.out, HG.out, fun c hc => by simpa using MM.out c hc⟩
          case round =>
            rename World => Wb
            obtain ⟨b, hbm, rfl, HR⟩ := hrel
            clear HT HG MM
            obtain ⟨hd, lv, hv, hx, head, recv, PV, hT, hgl, hMem⟩ := HR.out
            by_cases hbl : b < m
            · have e0 := hT.s0
              cases hbt : (bits BinOp.and IntKind.u16 (me / 2 ^ b) 1 == 0)
              · have hbd := (hMem b hbl)
                rw [if_neg (by omega)] at hbd
                obtain ⟨bd1, bd2, bd3, bd4⟩ := hbd.bounds hlt h300
                have hpc : Wb.cell? ⟨bp, i, none⟩ = some (.slice ap plen pcap) := by rw [← hT.pv]; exact hT.big.rp.cell hlt
                have hcall := (show Hid _ from receive_any (be + 2) w.heap.size bs bp bh bhd bl m len b i gp plen pcap ap Ps hd lv hv hx Wb hbl hlt h300 hm16 hpl64 LB.out.lay hT.big.bsz hT.big.sim bd1 bd2 bd3 bd4 hpc HA (fun t ht => ⟨hT.gc t ht, hps2.out t ht⟩)
                  (by have := hT.lg; have := LB.out.lay.lh; omega) (by have := hT.lg; have := LB.out.lay.ll; omega))
                clear hpc bd1 bd2 bd3 bd4
                have HT : Hid (Turn w Wb (be + 2) w.heap.size bs bp bh bhd bl be (be + 1) m len hd lv hv hx head recv PV i stb gp plen (.slice ap plen pcap) me pa Ps) := hT
                have HMem : Hid (∀ c, c < m → Mem m len c hd (lv c) (hx c) head recv (if c < b then i + 1 else i)) := hMem
                have HGL : Hid (gp < Wb.heap.size) := hgl
                clear hT hMem HR hgl hbd
                go_wp2_with fail
                refine Calls.mono hcall.out ?_
                rintro e W6 ⟨rfl, hpost⟩
                obtain ⟨hv', hx', hT6, hx1, hx2, hgl6⟩ := HT.out.received LB.out hbl HGL.out hpost
                have HT6 := (show Hid (Turn _ _ _ _ _ _ _ _ _ _ _ _ _ _ _ _ _ _ _ _ _ _ _ _ _ _ _ _) from hT6)
                have hms := mems_step hbl hlt hps2.out HMem.out hx1 (by simpa only [if_true] using hx2)
                have HGL6 : Hid (gp < W6.heap.size) := hgl6
                clear hT6 hx1 hx2 hpost hcall HT HGL e0 hbt hgl6 HMem
                generalize hH6 : (fun x => if x = i * m + b then (i : Int) else (dropN m b Ps plen (hd, lv b)).1 x) = hd6 at *
                generalize hL6 : (fun x => if x = b then (dropN m b Ps plen (hd, lv b)).2 + 1 else lv x) = lv6 at *
                have HMS : Hid (∀ c, c < m → Mem m len c hd6 (lv6 c) (hx' c) (fun x => if x = i * m + b then true else headDrop m b Ps plen head x) (fun x => if x = i * m + b then true else recv x) (if c < b + 1 then i + 1 else i)) := hms
                clear hms hH6 hL6
                go_wp2_with fail
                go_loopw [114] (fun v wt => ∃ t : Nat, t ≤ plen ∧ v = .int .i64 t ∧ Hid (gp < wt.heap.size ∧ Turn w wt (be + 2) w.heap.size bs bp bh bhd bl be (be + 1) m len hd6 lv6 hv' hx' (headDrop m b Ps t head) recv PV i stb gp plen (.slice ap plen pcap) me pa Ps)) (fun v _ => plen - (intOf v).toNat)
                case atStart => exact ⟨0, Nat.zero_le _, rfl, HGL6.out, HT6.out⟩
                case round =>
                  rename World => Wt
                  obtain ⟨t, ht, rfl, HR⟩ := hrel
                  clear HT6 HGL6
                  by_cases htl : t < plen
                  · obtain rfl := HA.out (by omega)
                    obtain ⟨hgl, hT⟩ := HR.out
                    have e1 := hT.gc t htl
                    obtain ⟨p, hp⟩ : ∃ p, Ps t = p := ⟨_, rfl⟩
                    have hpk := hps2.out t htl
                    have HP : Hid (Ps t = p) := hp
                    rw [hp] at e1 hpk
                    clear hp
                    have hidx : p * m + b < m * len := by rw [Nat.mul_comm m len]; exact idx_lt hpk hbl
                    have hidx' : (p : Int) * (m : Int) + (b : Int) < (m : Int) * (len : Int) := by have := Int.ofNat_lt.2 hidx; simpa using this
                    have hpos : 0 ≤ (p : Int) * (m : Int) := Int.mul_nonneg (by omega) (by omega)
                    have e2 := hT.big.re.cell hidx
                    have f2 := hT.big.re.frozen (p * m + b)
                    clear hT hgl
                    go_wp2_with fail
                    go_roundw
                    case rel =>
                      refine ⟨t + 1, by omega, by go_num, by rw [nblk_setCell]; exact HR.out.1, ?_⟩
                      have := HR.out.2.setHead LB.out (p * m + b) false
                      have e : headDrop m b Ps (t + 1) head = fun j => if j = p * m + b then false else headDrop m b Ps t head j := by funext x; show (if x = Ps t * m + b then false else headDrop m b Ps t head x) = _; rw [HP.out]
                      rw [e]; exact this
                    case measure => simp [intOf]; omega
                  · have htp : t = plen := by omega
                    subst htp
                    obtain ⟨hgl, hT⟩ := HR.out
                    have hidx : i * m + b < m * len := by rw [Nat.mul_comm m len]; exact idx_lt hlt hbl
                    have hidx' : (i : Int) * (m : Int) + (b : Int) < (m : Int) * (len : Int) := by have := Int.ofNat_lt.2 hidx; simpa using this
                    have hpos : 0 ≤ (i : Int) * (m : Int) := Int.mul_nonneg (by omega) (by omega)
                    have e2 := hT.big.re.cell hidx
                    have f2 := hT.big.re.frozen (i * m + b)
                    have e3 := hT.big.rr.cell hidx
                    have f3 := hT.big.rr.frozen (i * m + b)
                    clear hT hgl
                    go_wp2_with fail
                    go_roundw
                    case rel =>
                      (repeat apply Exists.intro)
                      refine ⟨?_, rfl⟩
                      exact ⟨b + 1, by omega, by go_num, hd6, lv6, hv', hx', _, _, PV, (HR.out.2.setHead LB.out (i * m + b) true).setRecv LB.out (i * m + b) true, by rw [nblk_setCell, nblk_setCell]; exact HR.out.1, HMS.out⟩
                    case measure => simp [intOf]; omega
              · have HN : Hid (∃ hd lv hv hx head recv PV, Turn w Wb (be + 2) w.heap.size bs bp bh bhd bl be (be + 1) m len hd lv hv hx head recv PV i stb gp plen (.slice ap plen pcap) me pa Ps ∧ gp < Wb.heap.size ∧ ∀ c, c < m → Mem m len c hd (lv c) (hx c) head recv (if c < b + 1 then i + 1 else i)) :=
                  ⟨hd, lv, hv, hx, head, recv, PV, hT, hgl, mems_skip hMem⟩
                clear hT hMem HR hgl
                go_wp2_with fail
                go_roundw
                case rel => exact ⟨b + 1, by omega, by go_num, HN.out⟩
                case measure => simp [intOf]; omega
            · have hbm' : b = m := by omega
              subst hbm'
              have HN : Hid (∃ hd lv hv hx head recv PV, Big w Wb (be + 2) w.heap.size bs bp bh bhd bl be (be + 1) b len hd lv hv hx head recv PV ∧ ∀ c, c < b → Mem b len c hd (lv c) (hx c) head recv (i + 1)) :=
                ⟨hd, lv, hv, hx, head, recv, PV, hT.big, fun c hc => by have := hMem c hc; rw [if_pos hc] at this; exact this⟩
              clear hT hMem HR hgl
              go_wp2_with fail
              go_roundw
              case rel => exact ⟨i + 1, by omega, by go_num, HN.out⟩
              case measure => simp [intOf]; omega
        · obtain ⟨j, rfl⟩ : ∃ j, jn = j + 1 := ⟨jn - 1, by omega⟩
          rw [show (((j + 1 : Nat) : Int) - 1) = (j : Int) by omega]
          have hj64 : (j : Int) < 64 := by omega
          have a1' : Wq.cell? ⟨Wi.heap.size, 1, none⟩ = some (.int .u64 pa) := (HQ.out.1.cell (World.block_lt_of_cell? W3 _ a1) (fun h => h)).trans a1
          have szq : W3.heap.size ≤ Wq.heap.size := HQ.out.1.size
          cases hbt : (bits BinOp.and IntKind.u64 (pa / 2 ^ j) 1 == 1)
          · go_wp2_with fail
            go_roundw
            case rel => exact ⟨j, ps, by omega, rfl, by omega, HQ.out⟩
            case measure => simp [intOf]
          · by_cases hij : j < i
            · go_wp2_with (at_builtin; refine wpList_append_lies _ rfl (.tmp 85) (.tmp 87) 33 rfl W3.heap.size 3 i0 (.int .i64 0) 1 8 Yba.underlying33 hi0 hz0 hz1 hz2 rfl (by decide) u13 ps.length (ints ps) rfl (HQ.out.2.1.alloc _) ⟨Wq.heap.size, 0, none⟩ 1 1 [.int .i64 ((i : Int) - 1 - (j : Int))] rfl rfl ?c1 ?c2 (by decide) ?c3 ?c4 ?c5 (Wq.heap.size + 1) ?c6 ?_)
              case c1 => exact World.news_of_block (blk_alloc_new Wq _)
              case c2 => intro u hu; simp at hu; rw [hu]; rfl
              case c3 => unfold maxLen; omega
              case c4 => omega
              case c5 => rw [nblk_alloc]; omega
              case c6 => exact nblk_alloc _ _
              intro g cp W5 hown hgrow hat hlt5
              have HQ5 : Hid (Chg (fun _ => False) W3 W5 ∧ W5.ownsRow W3.heap.size 3 1 (.slice (some ⟨g, 0, none⟩) (ps.length + 1) cp) (ps ++ [i - 1 - j]).length (ints (ps ++ [i - 1 - j])) ∧ ∀ p ∈ ps ++ [i - 1 - j], p < i) := by
                refine ⟨(HQ.out.1.alloc _).grown hgrow (fun b hb hlt => ?_), ?_, ?_⟩
                · have := HQ.out.2.1.lt b hb; omega
                · rw [ints_append]
                  have e1 : (ps ++ [i - 1 - j]).length = ps.length + 1 := by simp
                  have e2 : ints [i - 1 - j] = [.int .i64 ((i : Int) - 1 - (j : Int))] := by simp [ints]; omega
                  rw [e1, e2, sz3]; exact hown
                · intro p hp
                  rcases List.mem_append.1 hp with h | h
                  · exact HQ.out.2.2 p h
                  · rw [List.mem_singleton.1 h]; omega
              clear hown hgrow hat hlt5 HQ
              go_wp2_with fail
              go_roundw
              case rel => exact ⟨j, ps ++ [i - 1 - j], by omega, rfl, by simp; omega, HQ5.out⟩
              case measure => simp [intOf]
            · go_wp2_with fail
              go_roundw
              case rel => exact ⟨j, ps, by omega, rfl, by omega, HQ.out⟩
              case measure => simp [intOf]
    · have hil : i = len := by omega
      subst hil
      obtain ⟨hd, lv, hv, hx, head, recv, PV, hBig, hMem⟩ := HR.out
      have BG : Hid (Big w Wi (be + 2) w.heap.size bs bp bh bhd bl be (be + 1) m i hd lv hv hx head recv PV) := hBig
      have MM : Hid (∀ b, b < m → Mem m i b hd (lv b) (hx b) head recv i) := hMem
      clear hBig hMem HR hst hb
      go_wp2_with fail
      go_loopw [19] (fun v wb => ∃ b : Nat, b ≤ m ∧ v = .int .i64 b ∧ Hid (Chg (fun _ => False) Wi wb)) (fun v _ => m - (intOf v).toNat)
      case atStart => exact ⟨0, Nat.zero_le _, rfl, Chg.refl _ _⟩
      case round =>
        rename World => Wb
        obtain ⟨b, hbm, rfl, HC⟩ := hrel
        by_cases hbl : b < m
        · have hB := BG.out.grow HC.out
          have hM := MM.out b hbl
          have q7 := hB.sim.c7
          have q8 := hB.sim.c8
          have q9 := hB.sim.c9
          have q10 := hB.sim.rl.cell hbl
          have q11 := hB.sim.rhd.cell hbl
          have HB : Hid (Big w Wb (be + 2) w.heap.size bs bp bh bhd bl be (be + 1) m i hd lv hv hx head recv PV) := hB
          have HM : Hid (Mem m i b hd (lv b) (hx b) head recv i) := hM
          clear hB hM
          go_wp2_with fail
          go_loop [20, 21] (fun c x => ∃ t : Nat, t ≤ i ∧ x = .int .i64 t ∧ c = .int .i64 (cnt (fun y => head (y * m + b)) t)) (fun _ x => i - (intOf x).toNat)
          case atStart => exact ⟨0, Nat.zero_le _, rfl, rfl⟩
          case round =>
            obtain ⟨t, ht, rfl, rfl⟩ := hrel
            have hct := cnt_le (fun y => head (y * m + b)) t
            have hcs : Hid (cnt (fun y => head (y * m + b)) (t + 1) = cnt (fun y => head (y * m + b)) t + (if head (t * m + b) then 1 else 0)) := rfl
            by_cases htl : t < i
            · have hidx : t * m + b < m * i := by rw [Nat.mul_comm m i]; exact idx_lt htl hbl
              have hidx2 : t * m + b < i * m := idx_lt htl hbl
              have hidx' : (t : Int) * (m : Int) + (b : Int) < (m : Int) * (i : Int) := by have := Int.ofNat_lt.2 hidx; simpa using this
              have hidx2' : (t : Int) * (m : Int) + (b : Int) < (i : Int) * (m : Int) := by have := Int.ofNat_lt.2 hidx2; simpa using this
              have hpos : 0 ≤ (t : Int) * (m : Int) := Int.mul_nonneg (by omega) (by omega)
              have e2 := HB.out.re.cell hidx
              have e3 := HB.out.sim.rh.cell hidx2
              have e4 := HM.out.hd_eq t htl
              generalize hd (t * m + b) = y at e3 e4
              generalize cnt (fun y => head (y * m + b)) t = ct at *
              cases hh : head (t * m + b)
              · rw [hh] at e2 e4 hcs
                simp only [Bool.false_eq_true, if_false] at e4 hcs
                subst e4
                have HCS : Hid _ := hcs
                clear hcs hh
                go_wp2_with fail
                go_round
                case rel => exact ⟨t + 1, by omega, by go_num, by rw [HCS.out]; simp⟩
                case measure => simp [intOf]; omega
              · rw [hh] at e2 e4 hcs
                simp only [if_true] at e4 hcs
                subst e4
                have HCS : Hid _ := hcs
                clear hcs hh
                go_wp2_with fail
                go_round
                case rel => exact ⟨t + 1, by omega, by go_num, by rw [HCS.out]; simp⟩
                case measure => simp [intOf]; omega
            · obtain rfl : t = i := by omega
              clear hcs
              have hlv := HM.out.lv_eq
              have hlen := HM.out.len
              rw [hlv] at q10 hlen
              clear hlv
              generalize cnt (fun y => head (y * m + b)) t = ct at *
              obtain ⟨ao, g, hcap, hvb, hao, hg1, hg2, hpl2, hgc⟩ := ps_form (d := be) (HB.out.sim.own b hbl) (by have := HB.out.bsz; omega) (by omega)
              rw [hvb] at q11
              have HG : Hid ((0 < (hx b).length → ao = some ⟨g, 0, none⟩) ∧ ∀ s, s < (hx b).length → Wb.cell? ⟨g, s, none⟩ = some (.int .i64 (((hx b).getD s 0 : Nat) : Int))) := ⟨hao, hgc⟩
              clear hvb hao hgc hpl2
              obtain ⟨n, hn⟩ : ∃ n, (hx b).length = n := ⟨_, rfl⟩
              have HN : Hid ((hx b).length = n) := hn
              rw [hn] at q11 hlen
              have hmk : ∀ w : World, (Instr.makeSlice 38 (.int .i64 (t : Int)) (.int .i64 (t : Int))).run Yba.prog w = .ok (.slice (some ⟨w.heap.size, 0, none⟩) t t) (w.alloc (.cells (madeCells #[.bool false] t) 4)) := fun w =>
                run_make_row' (P := Yba.prog) 38 4 (.bool false) 1 Yba.underlying38 Yba.info4 rfl .i64 .i64 t (by omega) (by omega) w
              clear hn
              have bt : ((ct : Int) != (ct : Int)) = false := by simp
              have bt2 : decide (2 * (ct : Int) + 8 < (n : Int)) = false := by simp; omega
              go_wp2_with fail
              clear bt bt2 hmk q7 q8 q9 q10 q11
              obtain ⟨W7, hW7⟩ : ∃ W7, W7 = Wb.alloc (.cells (madeCells #[.bool false] t) 4) := ⟨_, rfl⟩
              have hc7 : Chg (fun _ => False) Wb W7 := by rw [hW7]; exact (Chg.refl _ _).alloc _
              have r7 : W7.rowIs Wb.heap.size 4 t (fun x => .bool (decide (x ∈ (hx b).take 0))) := by rw [hW7]; exact (World.rowIs_made _ _ _ _).congr (fun x _ => by simp)
              have HC7 : Hid (Chg (fun _ => False) Wb W7) := hc7
              have R7 : Hid (W7.rowIs Wb.heap.size 4 t (fun x => .bool (decide (x ∈ (hx b).take 0)))) := r7
              have HL : Hid ((hx b).Nodup ∧ (∀ h ∈ hx b, h < t ∧ recv (h * m + b) = true) ∧ ∀ y, y < t → head (y * m + b) = true → y ∈ hx b) := ⟨HM.out.nodup, HM.out.lt, HM.out.mem⟩
              rw [← hW7]
              clear hW7 hc7 r7 HM MM
              have hn3 : n ≤ 300 := by
                have := nodup_le (f := fun _ => true) (k := t) (hx b) HL.out.1 (fun x hx => ⟨(HL.out.2.1 x hx).1, rfl⟩)
                rw [cnt_all] at this
                have := HN.out
                omega
              go_loopw [211] (fun v ws => ∃ s : Nat, s ≤ n ∧ v = .int .i64 s ∧ Hid (Chg (fun x => x = Wb.heap.size) W7 ws ∧ ws.rowIs Wb.heap.size 4 t (fun x => .bool (decide (x ∈ (hx b).take s))))) (fun v _ => n - (intOf v).toNat)
              case atStart => exact ⟨0, Nat.zero_le _, rfl, Chg.refl _ _, R7.out⟩
              case round =>
                rename World => Ws
                obtain ⟨s, hs, rfl, HR⟩ := hrel
                by_cases hsn : s < n
                · obtain ⟨hcs, hrs⟩ := HR.out
                  have hsl : s < (hx b).length := by have := HN.out; omega
                  obtain rfl := HG.out.1 (by omega)
                  obtain ⟨hnd, hlt2, _⟩ := HL.out
                  obtain ⟨h, hh⟩ : ∃ h, (hx b)[s] = h := ⟨_, rfl⟩
                  obtain ⟨hht, hhr⟩ := hlt2 ((hx b)[s]) (List.getElem_mem hsl)
                  have hgs := HG.out.2 s hsl
                  rw [getD_lt hsl] at hgs
                  rw [hh] at hht hhr hgs
                  have hsz7 := HC7.out.size
                  have e1 : Ws.cell? ⟨g, s, none⟩ = some (.int .i64 (h : Int)) := (hcs.cell (by dsimp only; omega) (by dsimp only; omega)).trans ((HC7.out.cell (by exact hg2) (fun h => h)).trans hgs)
                  have hidx : h * m + b < m * t := by rw [Nat.mul_comm m t]; exact idx_lt hht hbl
                  have hidx' : (h : Int) * (m : Int) + (b : Int) < (m : Int) * (t : Int) := by have := Int.ofNat_lt.2 hidx; simpa using this
                  have hpos : 0 ≤ (h : Int) * (m : Int) := Int.mul_nonneg (by omega) (by omega)
                  have hbsz := HB.out.bsz
                  have rr : Ws.rowIs (be + 1) 4 (m * t) (fun x => .bool (recv x)) := hcs.row (HC7.out.row HB.out.rr (fun h => h)) (by omega)
                  have e2 : Ws.cell? ⟨be + 1, h * m + b, none⟩ = some (.bool true) := by rw [rr.cell hidx, hhr]
                  have hns : ¬ h ∈ (hx b).take s := by
                    intro hm
                    obtain ⟨q, hq, he⟩ := List.getElem_of_mem hm
                    rw [List.getElem_take] at he
                    have hq' : q < s := by simp at hq; omega
                    have := nodup_idx hnd (i := q) (j := s) (by omega) hsl (he.trans hh.symm)
                    omega
                  have e3 : Ws.cell? ⟨Wb.heap.size, h, none⟩ = some (.bool false) := by rw [hrs.cell hht]; simp [hns]
                  have f3 := hrs.frozen h
                  have HH : Hid ((hx b)[s] = h) := hh
                  have k1 : decide ((h : Int) < 0) = false := by simp
                  have k2 : decide ((t : Int) ≤ (h : Int)) = false := by simp; omega
                  clear rr hrs hcs hgs hhr hh hnd hlt2 hns
                  go_wp2_with fail
                  go_roundw
                  case rel =>
                    obtain ⟨hcs, hrs⟩ := HR.out
                    refine ⟨s + 1, by omega, by go_num, hcs.setCell (by intro _; rfl) _, (hrs.set h _).congr (fun x _ => ?_)⟩
                    have hsl : s < (hx b).length := by have := HN.out; omega
                    rw [List.take_succ_eq_append_getElem hsl, HH.out]
                    by_cases e : x = h
                    · rw [if_pos e]; simp [e]
                    · rw [if_neg e]; simp [e]
                  case measure => simp [intOf]; omega
                · have hsn' : (hx b).length ≤ s := by have := HN.out; omega
                  have R8 : Hid (Chg (fun _ => False) Wb Ws ∧ Ws.rowIs be 4 (m * t) (fun x => .bool (head x)) ∧ Ws.rowIs Wb.heap.size 4 t (fun x => .bool (decide (x ∈ hx b)))) := by
                    obtain ⟨hcs, hrs⟩ := HR.out
                    have hbsz := HB.out.bsz
                    refine ⟨HC7.out.andThen hcs (fun b hb hlt => by omega), hcs.row (HC7.out.row HB.out.re (fun h => h)) (by omega), hrs.congr (fun x _ => by rw [List.take_of_length_le hsn'])⟩
                  clear HR R7 HG
                  go_wp2_with fail
                  go_loop [26] (fun x => ∃ y : Nat, y ≤ t ∧ x = .int .i64 y) (fun x => t - (intOf x).toNat)
                  case atStart => exact ⟨0, Nat.zero_le _, rfl⟩
                  case round =>
                    obtain ⟨y, hy, rfl⟩ := hrel
                    by_cases hyt : y < t
                    · have hidx : y * m + b < m * t := by rw [Nat.mul_comm m t]; exact idx_lt hyt hbl
                      have hidx' : (y : Int) * (m : Int) + (b : Int) < (m : Int) * (t : Int) := by have := Int.ofNat_lt.2 hidx; simpa using this
                      have hpos : 0 ≤ (y : Int) * (m : Int) := Int.mul_nonneg (by omega) (by omega)
                      have e2 := R8.out.2.1.cell hidx
                      cases hhd : head (y * m + b)
                      · rw [hhd] at e2
                        clear hhd
                        go_wp2_with fail
                        go_round
                        case rel => exact ⟨y + 1, by omega, by go_num⟩
                        case measure => simp [intOf]; omega
                      · rw [hhd] at e2
                        have e3 := R8.out.2.2.cell hyt
                        have hin := HL.out.2.2 y hyt hhd
                        rw [decide_eq_true hin] at e3
                        clear hhd hin
                        go_wp2_with fail
                        go_round
                        case rel => exact ⟨y + 1, by omega, by go_num⟩
                        case measure => simp [intOf]; omega
                    · go_wp2_with fail
                      go_roundw
                      case rel =>
                        first
                          | exact ⟨b + 1, by omega, by go_num, HC.out.trans R8.out.1⟩
                          | ((repeat apply Exists.intro); refine ⟨?_, rfl⟩; exact ⟨b + 1, by omega, by go_num, HC.out.trans R8.out.1⟩)
                      case measure => simp [intOf]; omega
        · have hbm' : b = m := by omega
          subst hbm'
          go_wp2_with fail
          go_ret
          exact ⟨rfl, (BG.out.old.trans HC.out).below (Nat.le_refl _) (fun _ _ h => h)⟩
end Go.Proofs.Ybulkcqyu
