import Derived.Test.Qxb6616202aFlowA
import Derived.Test.Qxb6616202aFlowG
import Derived.Test.Qxb6616202aIns
import Derived.Test.Qxb6616202aLaws
import Derived.Test.Qxb6616202aMathB
namespace Go.Proofs.Qxb6616202a.Flow
open Go.RowKit Go.Proofs.Qxb6616202a.Kit Go.Proofs.Qxb6616202a.FM
set_option linter.unusedVariables false
set_option linter.unusedSimpArgs false

def PTr (w : World) (e : Ending) (w' : World) : Prop := e = .returned (.bool true) ∧ Below w.heap.size w w'

set_option maxRecDepth 100000 in
set_option maxHeartbeats 1000000 in
theorem edge_walk (n p t h : Int) (a1 a2 : Option Addr) (c1 c2 : Nat) (xs ys : List Int) (w : World) (hm1 : xs.length ≤ maxLen) (hm2 : ys.length ≤ maxLen)
    (h1 : Rd .i32 w a1 xs) (h2 : Rd .i32 w a2 ys) (b1 : ∀ x ∈ xs, -2147483648 ≤ x ∧ x ≤ 2147483647) (b2 : ∀ x ∈ ys, -2147483648 ≤ x ∧ x ≤ 2147483647)
    (k1 : xs.length ≤ c1) (k2 : ys.length ≤ c2) (z1 : a1 = none → c1 = 0) (z2 : a2 = none → c2 = 0) (bt : -2147483648 ≤ t ∧ t ≤ 2147483647) (bh : -2147483648 ≤ h ∧ h ≤ 2147483647) :
    Calls Try.prog 4 #[.int .i64 n, .slice a1 xs.length c1, .slice a2 ys.length c2, .int .i64 p, .int .i32 t, .int .i32 h] w (PTr w) := by
  have hm1' := hm1
  have hm2' := hm2
  unfold maxLen at hm1' hm2'
  have H1 := hide h1
  have H2 := hide h2
  have B1 := hide b1
  have B2 := hide b2
  have K1 := hide k1
  have K2 := hide k2
  have Z1 := hide z1
  have Z2 := hide z2
  obtain ⟨bt1, bt2⟩ := bt
  obtain ⟨bh1, bh2⟩ := bh
  have neq := fun (w : World) (a : Option Addr) (n c n' c' : Nat) => run_neq_slice_nil_any (P := Try.prog) w 31 21 a n c n' c' Try.underlying31
  clear h1 h2 b1 b2 k1 k2 z1 z2
  by_cases hl : ys.length = xs.length
  case neg =>
    have hne : ¬ (xs.length : Int) = ys.length := by omega
    clear hl
    go_enter Try.func4, Try.ntmps4
    go_wp2_with fail
    refine (bytes4 n p t h a1 a2 _ _ _ _ _ hm1 hm2).mono ?_
    rintro e w' ⟨⟨b, rfl⟩, hw⟩
    subst w'
    cases b
    · go_wp2
      go_ret
      exact ⟨rfl, Below.refl _ _⟩
    clear hm1 hm2
    go_wp2_with fail
    all_goals (go_ret; exact ⟨rfl, Below.refl _ _⟩)
  have HL := hide hl
  rw [hl] at hm2 ⊢
  clear hl hm2'
  go_enter Try.func4, Try.ntmps4
  go_wp2_with fail
  refine (bytes4 n p t h a1 a2 _ _ _ _ _ hm1 hm2).mono ?_
  rintro e w' ⟨⟨b, rfl⟩, hw⟩
  subst w'
  cases b
  · go_wp2
    go_ret
    exact ⟨rfl, Below.refl _ _⟩
  clear hm1 hm2
  go_wp2_with fail
  any_goals (go_ret; exact ⟨rfl, Below.refl _ _⟩)
  have hm : xs.length ≤ 65536 := by omega
  have hn0 : 0 ≤ n := by omega
  have hn1 : n ≤ 65536 := by omega
  obtain ⟨N, rfl⟩ : ∃ N : Nat, n = N := ⟨n.toNat, by omega⟩
  clear hm1' hn0
  have hcall := edges_any N a1 a2 c1 c2 xs ys w HL.out hm H1.out H2.out B1.out B2.out
  rw [HL.out] at hcall
  refine hcall.mono ?_
  clear hcall
  rintro e w' ⟨⟨b, rfl, hb⟩, hw⟩
  subst w'
  cases b
  · clear hb
    go_wp2
    go_ret
    exact ⟨rfl, Below.refl _ _⟩
  have HB := hide (hb rfl)
  clear hb
  go_upto_if 90 with fail
  any_goals (go_ret; exact ⟨rfl, Below.refl _ _⟩)
  obtain ⟨P, rfl⟩ : ∃ P : Nat, p = P := ⟨p.toNat, by omega⟩
  obtain ⟨T, rfl⟩ : ∃ T : Nat, t = T := ⟨t.toNat, by omega⟩
  obtain ⟨S, rfl⟩ : ∃ S : Nat, h = S := ⟨h.toNat, by omega⟩
  have hPl : P ≤ xs.length := by omega
  have hTN : T < N := by omega
  have hSN : S < N := by omega
  have hNb : N ≤ 65536 := by omega
  have mk1 : ∀ w, (Instr.makeSlice 31 (.int .i64 (xs.length : Int)) (.int .i64 (xs.length : Int))).run Try.prog w = .ok (.slice (some ⟨w.heap.size, 0, none⟩) xs.length xs.length) (w.alloc (.cells (zrow xs.length) 21)) := fun w => make32 _ (by omega) w
  go_cut [1] from 29 (fun v wx => CutSt w wx xs xs.length v)
  case first =>
    go_wp2_with (first | (refine copy_step rfl (.tmp 94) (.tmp 95) rfl xs xs.length rfl a1 c1 w.heap.size rfl rfl (heap_alloc_new w _) (H1.out.below ((Below.refl _ _).alloc (Nat.le_refl _) _)) w.heap.size ((Below.refl w.heap.size w).alloc (Nat.le_refl _) _) (Nat.le_refl _) ?_; intro w2 hblk hb2))
    · go_meet
      case rel => exact ⟨_, _, rfl, hblk.rd, by simp, Nat.le_refl _, hb2⟩
    · go_meet
      case rel => exact ⟨_, _, rfl, H1.out, Z1.out, K1.out, Below.refl _ _⟩
  case rest =>
    obtain ⟨aX, cX, rfl, rX, zX, kX, belX⟩ := hcut
    have rY0 := hide (H2.out.below belX)
    have RX := hide rX
    have ZX := hide zX
    have KX := hide kX
    clear rX zX kX
    go_upto_if 99 with fail
    go_cut [2] from 29 (fun v wx => CutSt wc wx ys xs.length v)
    case first =>
      go_wp2_with (first | (refine copy_step rfl (.tmp 103) (.tmp 104) rfl ys xs.length HL.out a2 c2 wc.heap.size rfl rfl (heap_alloc_new wc _) (rY0.out.below ((Below.refl _ _).alloc (Nat.le_refl _) _)) wc.heap.size ((Below.refl wc.heap.size wc).alloc (Nat.le_refl _) _) (Nat.le_refl _) ?_; intro w2 hblk hb2))
      · go_meet
        case rel => exact ⟨_, _, rfl, hblk.rd, by simp, Nat.le_refl _, hb2⟩
      · go_meet
        case rel => exact ⟨_, _, rfl, rY0.out, Z2.out, by have := K2.out; have := HL.out; omega, Below.refl _ _⟩
    case rest =>
      obtain ⟨aY, cY, rfl, rY, zY, kY, belY⟩ := hcut
      have RX' := hide (RX.out.below belY)
      have RY' := hide rY
      have bel0 := belX.trans (belY.mono belX.size)
      have hPl' : P ≤ xs.length := hPl
      have hNX := HL.out
      obtain ⟨aX2, cX2, sX2, rX2, zX2⟩ := cut_hi_ex aX xs.length cX P xs rfl hPl KX.out ZX.out
      obtain ⟨aY2, cY2, sY2, rY2, zY2⟩ := cut_hi_ex aY xs.length cY P ys HL.out hPl kY zY
      have sX1 := fun w => cut_lo aX xs.length cX P hPl KX.out w
      have sY1 := fun w => cut_lo aY xs.length cY P hPl kY w
      have mk2 : ∀ w, (Instr.makeSlice 31 (.int .i64 0) (.int .i64 ((xs.length : Int) + 1))).run Try.prog w = .ok (.slice (some ⟨w.heap.size, 0, none⟩) 0 (xs.length + 1)) (w.alloc (.cells (zrow (xs.length + 1)) 21)) := fun w => make32_0 (xs.length + 1) (by omega) w
      have RX2 := hide rX2
      have RY2 := hide rY2
      have ZX2 := hide zX2
      have ZY2 := hide zY2
      have ZY := hide zY
      have hXd : (xs.drop P).length = xs.length - P := by simp
      have hYd : (ys.drop P).length = xs.length - P := by simp [hNX]
      have hXt : (xs.take P).length = P := by simp; omega
      have hYt : (ys.take P).length = P := by simp; omega
      have HXd := hide hXd
      have HYd := hide hYd
      have HXt := hide hXt
      have HYt := hide hYt
      clear rX2 rY2 zX2 zY2 zY belX belY mk1 neq hXd hYd hXt hYt hNX rY rY0 kY
      go_wp2_with (first
        | (at_builtin; refine append_rd rfl (.tmp 112) (.tmp 115) rfl wc.heap.size _ _ _ rfl (made_own wc (xs.length + 1) (by omega)) aX P cX (xs.take P) rfl HXt.out ((RX'.out.take P).below ((Below.refl _ _).alloc (Nat.le_refl _) _)) ZX.out (by omega) ((Below.refl wc.heap.size wc).alloc (Nat.le_refl _) _) (by simp) ?_; intro v1 w1 own1 bel1 hB1)
        | (at_builtin; refine append_rd rfl (.tmp 117) (.tmp 119) rfl wc.heap.size _ _ _ rfl (own1.alloc _) (some ⟨w1.heap.size, 0, none⟩) 1 1 [(T : Int)] rfl rfl (rd_one w1 T) (fun h => by cases h) (by omega) (bel1.alloc hB1 _) (by simp; omega) ?_; intro v2 w2 own2 bel2 hB2)
        | (at_builtin; refine append_rd rfl (.tmp 121) (.tmp 124) rfl wc.heap.size _ _ _ rfl own2 aX2 (xs.length - P) cX2 (xs.drop P) rfl HXd.out (RX2.out _ (RX'.out.below bel2)) ZX2.out (by omega) bel2 hB2 ?_; intro v3 w3 own3 bel3 hB3)
        | (at_builtin; refine append_rd rfl (.tmp 129) (.tmp 132) rfl w3.heap.size _ _ _ rfl (made_own w3 (xs.length + 1) (by omega)) aY P cY (ys.take P) rfl HYt.out ((RY'.out.take P).below (bel3.trans (((Below.refl w3.heap.size w3).alloc (Nat.le_refl _) _).mono hB3))) ZY.out (by omega) ((Below.refl w3.heap.size w3).alloc (Nat.le_refl _) _) (by simp) ?_; intro v4 w4 own4 bel4 hB4)
        | (at_builtin; refine append_rd rfl (.tmp 134) (.tmp 136) rfl w3.heap.size _ _ _ rfl (own4.alloc _) (some ⟨w4.heap.size, 0, none⟩) 1 1 [(S : Int)] rfl rfl (rd_one w4 S) (fun h => by cases h) (by omega) (bel4.alloc hB4 _) (by simp; omega) ?_; intro v5 w5 own5 bel5 hB5)
        | (at_builtin; refine append_rd rfl (.tmp 138) (.tmp 141) rfl w3.heap.size _ _ _ rfl own5 aY2 (xs.length - P) cY2 (ys.drop P) rfl HYd.out (RY2.out _ (RY'.out.below (bel3.trans (bel5.mono hB3)))) ZY2.out (by omega) bel5 hB5 ?_; intro v6 w6 own6 bel6 hB6))
      have belW : Below wc.heap.size wc w6 := bel3.trans (bel6.mono hB3)
      have RX6 := hide (RX'.out.below belW)
      have RY6 := hide (RY'.out.below belW)
      have eT : [] ++ xs.take P ++ [(T : Int)] ++ xs.drop P = insL xs P T := by simp [insL]
      have eS : [] ++ ys.take P ++ [(S : Int)] ++ ys.drop P = insL ys P S := by simp [insL]
      rw [eT] at own3
      rw [eS] at own6
      have lT : 0 + P + 1 + (xs.length - P) = (insL xs P T).length := by rw [insL_length xs P T hPl]; omega
      have lS : 0 + P + 1 + (xs.length - P) = (insL ys P S).length := by rw [insL_length ys P S (by rw [HL.out]; exact hPl), HL.out]; omega
      rw [lT] at own3
      rw [lS] at own6
      obtain ⟨aT, bT, cT, rfl, haT, oT, gT, lbT, _⟩ := own_of_ownsRow own3 hB3
      obtain ⟨aS, bS, cS, rfl, haS, oS, gS, lbS, _⟩ := own_of_ownsRow own6 hB6
      clear RX' RY' RX2 RY2 ZX2 ZY2 ZY ZX HXd HYd HXt HYt sX1 sX2 sY1 sY2 mk2 own3 own6 eT eS bel1 bel2 bel4 bel5 own1 own2 own4 own5 hB1 hB2 hB4 hB5 KX K1 K2 Z1 Z2
      have bX : ∀ j, j < xs.length → 0 ≤ xs.getD j 0 ∧ xs.getD j 0 < N := fun j hj => (HB.out j hj).1
      have bY : ∀ j, j < ys.length → 0 ≤ ys.getD j 0 ∧ ys.getD j 0 < N := fun j hj => (HB.out j (by rw [← HL.out]; exact hj)).2
      have BX := hide bX
      have BY := hide bY
      clear bX bY HB
      have hc1 := flow_any N aX aY cX cY xs ys w6 HL.out hNb (by omega) RX6.out RY6.out BX.out BY.out
      rw [HL.out] at hc1
      refine hc1.mono ?_
      clear hc1
      rintro e w7 ⟨b1, b2, b3, b4, F, G, F', G', rfl, HF⟩
      rw [HL.out]
      have HF1 := hide HF
      clear HF
      go_wp2_with fail
      have posT : 0 < (insL xs P T).length := by rw [insL_length xs P T hPl]; omega
      have hPy : P ≤ ys.length := by rw [HL.out]; exact hPl
      have posS : 0 < (insL ys P S).length := by rw [insL_length ys P S hPy]; omega
      obtain rfl := haT posT
      obtain rfl := haS posS
      have oT7 := (oT.below bel6 (lbT posT)).below HF1.out.bel (Nat.lt_of_lt_of_le (lbT posT) bel6.size)
      have oS7 := oS.below HF1.out.bel (lbS posS)
      have HlT := hide (insL_length xs P T hPl)
      have HlS := hide (insL_length ys P S hPy)
      refine (flow_any N _ _ cT cS (insL xs P T) (insL ys P S) w7 (by rw [HlT.out, HlS.out, HL.out]) hNb (by rw [HlT.out]; omega) oT7.rd oS7.rd (insL_all xs P T N hPl (by omega) BX.out) (insL_all ys P S N hPy (by omega) BY.out)).mono ?_
      rintro e w8 ⟨b5, b6, b7, b8, F2, G2, F2', G2', rfl, HF2⟩
      have q1 := HF1.out.later HF2.bel
      have c0 := q1.o1.cell 0 (by rw [q1.f1.1]; omega)
      have c1 := q1.o3.cell 0 (by rw [q1.f2.1]; omega)
      have c2 := q1.o1.cell N (by rw [q1.f1.1]; omega)
      have c3 := q1.o3.cell N (by rw [q1.f2.1]; omega)
      rw [isF_zero q1.f1 BX.out] at c0
      rw [isF_zero q1.f2 BY.out] at c1
      rw [isF_last q1.f1 BX.out] at c2
      rw [isF_last q1.f2 BY.out, HL.out] at c3
      have Q1 := hide q1
      have Q2 := hide HF2
      have bel8 : Below w.heap.size w w8 := (bel0.trans (belW.mono bel0.size)).trans ((HF1.out.bel.trans (HF2.bel.mono HF1.out.bel.size)).mono (Nat.le_trans bel0.size belW.size))
      have bel68 : Below w6.heap.size w6 w8 := HF1.out.bel.trans (HF2.bel.mono HF1.out.bel.size)
      have RX8 := hide (RX6.out.below bel68)
      have RY8 := hide (RY6.out.below bel68)
      have B8 := hide bel8
      have i1 : (N : Int) < (N : Int) + 1 := by omega
      clear q1 HF2 HF1 oT7 oS7 oT oS RX6 RY6 bel8 bel68 bel0 belW bel3 bel6 hB3 hB6 haT haS lbT lbS gT gS lT lS posT posS
      go_wp2_with fail
      go_loop [26, 27, 28] (fun kt kh i => ∃ k : Nat, k ≤ P ∧ i = .int .i64 k ∧ kt = .int .i64 (eqc (xs.take k) T : Nat) ∧ kh = .int .i64 (eqc (ys.take k) S : Nat)) (fun _ _ i => P - (intOf i).toNat)
      case atStart => exact ⟨0, Nat.zero_le _, rfl, rfl, rfl⟩
      case round =>
        obtain ⟨k, hk, rfl, rfl, rfl⟩ := hrel
        clear c0 c1 c2 c3
        by_cases hlt : k < P
        · obtain ⟨bx, ox, rfl, hx⟩ := RX8.out k (by omega)
          obtain ⟨b_y, oy, rfl, hy⟩ := RY8.out k (by rw [HL.out]; omega)
          have hq1 := eqc_le (xs.take k) T
          have hq2 := eqc_le (ys.take k) S
          have hq3 : (xs.take k).length ≤ k := List.length_take_le _ _
          have hq4 : (ys.take k).length ≤ k := List.length_take_le _ _
          have s1 := eqc_take_succ xs k (by omega) T
          have s2 := eqc_take_succ ys k (by rw [HL.out]; omega) S
          obtain ⟨x, hxe⟩ : ∃ x, xs.getD k 0 = x := ⟨_, rfl⟩
          obtain ⟨y, hye⟩ : ∃ y, ys.getD k 0 = y := ⟨_, rfl⟩
          rw [hxe] at hx s1
          rw [hye] at hy s2
          generalize eqc (xs.take k) T = u at *
          generalize eqc (ys.take k) S = v at *
          have hu : u ≤ 65536 := by omega
          have hv : v ≤ 65536 := by omega
          clear hxe hye hq1 hq2 hq3 hq4
          by_cases e1 : x = T
          · rw [if_pos e1] at s1
            subst e1
            by_cases e2 : y = S
            · rw [if_pos e2] at s2
              subst e2
              have S1 := hide s1
              have S2 := hide s2
              clear s1 s2
              go_wp2
              go_round
              case rel => exact ⟨k + 1, by omega, by go_num, by rw [S1.out]; go_num, by rw [S2.out]; go_num⟩
              case measure => simp [intOf]; omega
            · rw [if_neg e2] at s2
              have S1 := hide s1
              have S2 := hide s2
              clear s1 s2
              go_wp2
              go_round
              case rel => exact ⟨k + 1, by omega, by go_num, by rw [S1.out]; go_num, by rw [S2.out]; go_num⟩
              case measure => simp [intOf]; omega
          · rw [if_neg e1] at s1
            by_cases e2 : y = S
            · rw [if_pos e2] at s2
              subst e2
              have S1 := hide s1
              have S2 := hide s2
              clear s1 s2
              go_wp2
              go_round
              case rel => exact ⟨k + 1, by omega, by go_num, by rw [S1.out]; go_num, by rw [S2.out]; go_num⟩
              case measure => simp [intOf]; omega
            · rw [if_neg e2] at s2
              have S1 := hide s1
              have S2 := hide s2
              clear s1 s2
              go_wp2
              go_round
              case rel => exact ⟨k + 1, by omega, by go_num, by rw [S1.out]; go_num, by rw [S2.out]; go_num⟩
              case measure => simp [intOf]; omega
        · obtain rfl : k = P := by omega
          have L1 := ins_law xs ys N k T S F G F2 G2 hPl HL.out hm hTN BX.out Q1.out.f1 Q1.out.t1 Q2.out.f1 Q2.out.t1
          have L2 := ins_law ys xs N k S T F' G' F2' G2' hPy HL.out.symm (by rw [HL.out]; exact hm) hSN BY.out Q1.out.f2 Q1.out.t2 Q2.out.f2 Q2.out.t2
          have hc1 := ins_any b1 b2 b5 b6 (N + 1) xs.length (N + 1) (insL xs k T).length F G F2 G2 T _ _ S w8 Q1.out.o1 Q1.out.o2 Q2.out.o1 Q2.out.o2 L1.1 L1.2 (by rw [Q1.out.f1.1]; omega) (by rw [Q1.out.t1.1]; omega)
          rw [Q1.out.f1.1, Q1.out.t1.1, Q2.out.f1.1, Q2.out.t1.1] at hc1
          have HC1 := hide hc1
          have HL2 := hide L2
          clear hc1 L1 L2
          go_wp2_with fail
          refine HC1.out.mono ?_
          rintro e w9 ⟨rfl, bel9⟩
          have hc2 := ins_any b3 b4 b7 b8 (N + 1) xs.length (N + 1) (insL ys k S).length F' G' F2' G2' S _ _ T w9 (Q1.out.o3.below bel9 Q1.out.l3) (Q1.out.o4.below bel9 Q1.out.l4) (Q2.out.o3.below bel9 Q2.out.l3) (Q2.out.o4.below bel9 Q2.out.l4) HL2.out.1 HL2.out.2 (by rw [Q1.out.f2.1]; omega) (by rw [Q1.out.t2.1, HL.out]; omega)
          rw [Q1.out.f2.1, Q1.out.t2.1, Q2.out.f2.1, Q2.out.t2.1, HL.out] at hc2
          have HC2 := hide hc2
          clear hc2
          go_wp2_with fail
          refine HC2.out.mono ?_
          rintro e w10 ⟨rfl, bel10⟩
          go_wp2
          go_ret
          exact ⟨rfl, B8.out.trans ((bel9.trans (bel10.mono bel9.size)).mono B8.out.size)⟩
end Go.Proofs.Qxb6616202a.Flow
