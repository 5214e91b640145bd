import Derived.Test.Qxb6616202aPDomA
namespace Go.Proofs.Qxb6616202a.Prune
open Go.RowKit Go.Proofs.Qxb6616202a.Kit Go.Proofs.Qxb6616202a.Flow
set_option linter.unusedVariables false
set_option linter.unusedSimpArgs false

/-- The row of flags, written as the call goes. -/
structure FSt (wB wr : World) (fs : List Bool) : Prop where
  bel : Below wB.heap.size wB wr
  own : OwnB wr wB.heap.size fs
  lt : wB.heap.size < wr.heap.size
theorem FSt.drewN {wB wr : World} {fs : List Bool} (h : FSt wB wr fs) (q : Nat) : FSt wB (wr.drewN q) fs := ⟨below_drewN h.bel q, h.own, h.lt⟩
theorem FSt.set {wB wr : World} {fs : List Bool} (h : FSt wB wr fs) (i : Nat) (v : Bool) (hi : i < fs.length) : FSt wB (wr.setCell ⟨wB.heap.size, i, none⟩ (.bool v)) (fs.set i v) :=
  ⟨h.bel.setCell (Nat.le_refl _) _, h.own.set i v hi, by simpa [World.setCell] using h.lt⟩

theorem rising_of {il : List Int} (h : ∀ j, j + 1 < il.length → il.getD j 0 < il.getD (j + 1) 0) : Rising il := by
  intro i j hij
  induction j with
  | zero => omega
  | succ j ih =>
    intro hj
    by_cases c : i = j
    · subst c; exact h i hj
    · have := ih (by omega) (by omega)
      have := h j hj
      omega

set_option maxRecDepth 100000 in
set_option maxHeartbeats 20000000 in
theorem dom_any (a1 a2 a3 a4 a5 a6 a7 : Option Addr) (c1 c2 c3 c4 c5 c6 c7 : Nat) (nk nl nr lk : List Int) (Ls : List (List Int)) (il sl : List Int) (w : World)
    (h1 : Rd .i32 w a1 nk) (h2 : Rd .i32 w a2 nl) (h3 : Rd .i32 w a3 nr) (h4 : Rd .i32 w a4 lk) (h5 : RdL w a5 Ls) (h6 : Rd .i64 w a6 il) (h7 : Rd .i32 w a7 sl)
    (m1 : nk.length ≤ 8192) (m2 : nl.length ≤ 8192) (m3 : nr.length ≤ 8192) (m4 : lk.length ≤ 4096) (m5 : Ls.length ≤ 4096) (m6 : il.length ≤ 8192) (m7 : sl.length ≤ 8192) (m8 : offs Ls Ls.length ≤ 65536)
    (B2 : ∀ x ∈ nl, -2147483648 ≤ x ∧ x ≤ 2147483647) (B3 : ∀ x ∈ nr, -2147483648 ≤ x ∧ x ≤ 2147483647) (B7 : ∀ x ∈ sl, -2147483648 ≤ x ∧ x ≤ 2147483647) :
    Calls Try.prog 18 #[.slice a1 nk.length c1, .slice a2 nl.length c2, .slice a3 nr.length c3, .slice a4 lk.length c4, .slice a5 Ls.length c5, .slice a6 il.length c6, .slice a7 sl.length c7] w (PDom nk nl nr lk Ls il sl w) := by
  have H1 := hide h1
  have H2 := hide h2
  have H3 := hide h3
  have H4 := hide h4
  have H5 := hide h5
  have H6 := hide h6
  have H7 := hide h7
  have HB2 := hide B2
  have HB3 := hide B3
  have HB7 := hide B7
  clear h1 h2 h3 h4 h5 h6 h7 B2 B3 B7
  by_cases hl : (nl.length = nk.length ∧ nr.length = nk.length) ∧ (Ls.length = lk.length ∧ sl.length = il.length)
  case neg =>
    have hl' : ¬ (((nl.length : Int) = nk.length ∧ (nr.length : Int) = nk.length) ∧ ((Ls.length : Int) = lk.length ∧ (sl.length : Int) = il.length)) := by omega
    clear hl
    as_aux_lemma =>
      by_cases q1 : (nl.length : Int) = nk.length
      case neg =>
        go_enter Try.func18, Try.ntmps18
        go_wp2_with fail
        go_ret2
        exact PDom.no (Below.refl _ _)
      have Q1 := hide q1
      by_cases q2 : (nr.length : Int) = nk.length
      case neg =>
        go_enter Try.func18, Try.ntmps18
        go_wp2_with fail
        go_ret2
        exact PDom.no (Below.refl _ _)
      have Q2 := hide q2
      by_cases q3 : (Ls.length : Int) = lk.length
      case neg =>
        go_enter Try.func18, Try.ntmps18
        go_wp2_with fail
        go_ret2
        exact PDom.no (Below.refl _ _)
      have q4 : ¬ (sl.length : Int) = il.length := fun q => hl' ⟨⟨q1, q2⟩, q3, q⟩
      clear hl'
      go_enter Try.func18, Try.ntmps18
      go_wp2_with fail
      go_ret2
      exact PDom.no (Below.refl _ _)
  obtain ⟨⟨l1, l2⟩, l3, l4⟩ := hl
  have L1 := hide l1
  have L2 := hide l2
  have L3 := hide l3
  have L4 := hide l4
  rw [l1, l2, l3, l4]
  rw [l3] at m8
  clear l1 l2 l3 l4 m2 m3 m5 m7
  have mk1 : ∀ w, (Instr.makeSlice 31 (.int .i64 (nk.length : Int)) (.int .i64 (nk.length : Int))).run Try.prog w = .ok (.slice (some ⟨w.heap.size, 0, none⟩) nk.length nk.length) (w.alloc (.cells (zrow nk.length) 21)) := fun w => make32 _ (by omega) w
  go_enter Try.func18, Try.ntmps18
  go_wp2_with fail
  have st0 := two_start .i32 21 w (List.replicate nk.length 0) (List.replicate nk.length 0)
  clear mk1
  go_loopw [19] (fun i wr => ∃ (t : Nat) (lo hi : List Int), 1 ≤ t ∧ (t ≤ nk.length ∨ t = 1) ∧ i = .int .i64 t ∧ Two .i32 w wr lo hi ∧ lo.length = nk.length ∧ hi.length = nk.length ∧ TreeTo nk nl nr lo hi t) (fun i _ => nk.length - (intOf i).toNat)
  case atStart => exact ⟨1, _, _, Nat.le_refl _, .inr rfl, rfl, st0, by simp, by simp, fun s h1 h2 => by omega⟩
  case round =>
    obtain ⟨t, lo, hi, ht1, ht2, rfl, hS, hlo, hhi, hT⟩ := hrel
    clear st0
    by_cases hlt : t < nk.length
    · obtain ⟨b1, o1, rfl, x1⟩ := (H1.out.below hS.bel) t hlt
      obtain ⟨b2, o2, rfl, x2⟩ := (H2.out.below hS.bel) t (by rw [L1.out]; exact hlt)
      obtain ⟨b3, o3, rfl, x3⟩ := (H3.out.below hS.bel) t (by rw [L2.out]; exact hlt)
      have hB2 := HB2.out _ (getD_mem nl t (by rw [L1.out]; exact hlt))
      have hB3 := HB3.out _ (getD_mem nr t (by rw [L2.out]; exact hlt))
      have cL := hS.o1.cell t (by rw [hlo]; exact hlt)
      have fL := hS.o1.froz t (by rw [hlo]; exact hlt)
      have cH := hS.o2.cell t (by rw [hhi]; exact hlt)
      have fH := hS.o2.froz t (by rw [hhi]; exact hlt)
      have hti : (t : Int) < (nk.length : Int) := by omega
      obtain ⟨k, hke⟩ : ∃ k, nk.getD t 0 = k := ⟨_, rfl⟩
      rw [hke] at x1
      by_cases c : (0 ≤ nl.getD t 0 ∧ nl.getD t 0 < t) ∧ (0 ≤ nr.getD t 0 ∧ nr.getD t 0 < t)
      case neg =>
        have hbel := hide hS.bel
        generalize nl.getD t 0 = l at *
        generalize nr.getD t 0 = r at *
        clear hke hS hT hlo hhi cL fL cH fH
        go_wp2_with fail
        all_goals (go_ret2; exact PDom.no hbel.out)
      obtain ⟨⟨cl1, cl2⟩, cr1, cr2⟩ := c
      obtain ⟨l, hle⟩ : ∃ l : Nat, nl.getD t 0 = l := ⟨(nl.getD t 0).toNat, by omega⟩
      obtain ⟨r, hre⟩ : ∃ r : Nat, nr.getD t 0 = r := ⟨(nr.getD t 0).toNat, by omega⟩
      rw [hle] at x2 cl1 cl2
      rw [hre] at x3 cr1 cr2
      have hlt' : l < t := by omega
      have hrt' : r < t := by omega
      have eLl := hS.o1.cell l (by rw [hlo]; omega)
      have eHl := hS.o2.cell l (by rw [hhi]; omega)
      have eLr := hS.o1.cell r (by rw [hlo]; omega)
      have eHr := hS.o2.cell r (by rw [hhi]; omega)
      have li : (l : Int) < (nk.length : Int) := by omega
      have ri : (r : Int) < (nk.length : Int) := by omega
      have hL1 : t < lo.length := by rw [hlo]; exact hlt
      have hH1 : t < hi.length := by rw [hhi]; exact hlt
      have n1 : l ≠ t := by omega
      have n2 : r ≠ t := by omega
      have STEP := fun g1 g2 => hT.step ht1 hL1 hH1 l r hle hre hlt' hrt' g1 g2
      rw [hke] at STEP
      have S0 := (hS.set1 t k hL1).set2 t k hH1
      obtain ⟨hl_, hhl⟩ : ∃ v, hi.getD l 0 = v := ⟨_, rfl⟩
      obtain ⟨ll_, hll⟩ : ∃ v, lo.getD l 0 = v := ⟨_, rfl⟩
      obtain ⟨hr_, hhr⟩ : ∃ v, hi.getD r 0 = v := ⟨_, rfl⟩
      obtain ⟨lr_, hlr⟩ : ∃ v, lo.getD r 0 = v := ⟨_, rfl⟩
      rw [hll] at eLl STEP
      rw [hhl] at eHl STEP
      rw [hlr] at eLr STEP
      rw [hhr] at eHr STEP
      obtain ⟨v1, hv1⟩ : ∃ v, lo.getD t 0 = v := ⟨_, rfl⟩
      obtain ⟨v2, hv2⟩ : ∃ v, hi.getD t 0 = v := ⟨_, rfl⟩
      rw [hv1] at cL
      rw [hv2] at cH
      have STEP := hide STEP
      have hbel := hide hS.bel
      have HLo := hide hlo
      have HHi := hide hhi
      have HS0 := hide S0
      clear hke hle hre hT hS hlo hhi S0 hll hhl hlr hhr hv1 hv2 HB2 HB3 HB7
      have dl := decide_eq_false (show ¬ (l : Int) < 0 by omega)
      as_aux_lemma =>
        by_cases zl : l = 0
        · subst zl
          by_cases zr : r = 0
          · subst zr
            have R2 := hide (STEP.out (by simp) (by simp))
            go_wp2_with fail
            go_roundw
            case rel => exact ⟨t + 1, _, _, by omega, .inl (by omega), by go_num, HS0.out, by simpa using HLo.out, by simpa using HHi.out, by simpa using R2.out⟩
            case measure => simp [intOf]; omega
          · have zrb : ((r : Int) == 0) = false := beq_eq_false_iff_ne.2 (by omega)
            by_cases q2 : k < lr_
            · have R2 := hide (STEP.out (by simp) (fun _ => q2))
              have S1 := hide (HS0.out.set2 t hr_ (by simpa using hH1))
              go_wp2_with fail
              go_roundw
              case rel => exact ⟨t + 1, _, _, by omega, .inl (by omega), by go_num, S1.out, by simpa using HLo.out, by simpa using HHi.out, by simpa [zr] using R2.out⟩
              case measure => simp [intOf]; omega
            · have hb1 := hide HS0.out.bel
              go_wp2_with fail
              go_ret2
              exact PDom.no hb1.out
        · have zlb : ((l : Int) == 0) = false := beq_eq_false_iff_ne.2 (by omega)
          by_cases q1 : hl_ < k
          · have S1 := hide (HS0.out.set1 t ll_ (by simpa using hL1))
            by_cases zr : r = 0
            · subst zr
              have R2 := hide (STEP.out (fun _ => q1) (by simp))
              go_wp2_with fail
              go_roundw
              case rel => exact ⟨t + 1, _, _, by omega, .inl (by omega), by go_num, S1.out, by simpa using HLo.out, by simpa using HHi.out, by simpa [zl] using R2.out⟩
              case measure => simp [intOf]; omega
            · have zrb : ((r : Int) == 0) = false := beq_eq_false_iff_ne.2 (by omega)
              by_cases q2 : k < lr_
              · have R2 := hide (STEP.out (fun _ => q1) (fun _ => q2))
                have S2 := hide (S1.out.set2 t hr_ (by simpa using hH1))
                go_wp2_with fail
                go_roundw
                case rel => exact ⟨t + 1, _, _, by omega, .inl (by omega), by go_num, S2.out, by simpa using HLo.out, by simpa using HHi.out, by simpa [zr, zl] using R2.out⟩
                case measure => simp [intOf]; omega
              · have hb1 := hide S1.out.bel
                go_wp2_with fail
                go_ret2
                exact PDom.no hb1.out
          · have hb1 := hide HS0.out.bel
            go_wp2_with fail
            go_ret2
            exact PDom.no hb1.out
    · have hTree : Tree nk nl nr lo hi := by
        apply TreeTo.tree
        intro s hs1 hs2
        exact hT s hs1 (by omega)
      have HTree := hide hTree
      have hbelA := hS.bel
      clear hTree hS hT hlo hhi
      go_wp2_with fail
      go_loopw [143] (fun i wx => ∃ (n : Nat), n ≤ il.length ∧ i = .int .i64 n ∧ Below w.heap.size w wx ∧ (∀ j, j < n → sl.getD j 0 = 0 ∨ (0 ≤ sl.getD j 0 ∧ sl.getD j 0 < nk.length)) ∧ ∀ j, j + 1 < n → il.getD j 0 < il.getD (j + 1) 0) (fun i _ => il.length - (intOf i).toNat)
      case atStart => exact ⟨0, Nat.zero_le _, rfl, hbelA, fun j hj => by omega, fun j hj => by omega⟩
      case round =>
        obtain ⟨n, hn, rfl, hbB, hsets, hrise⟩ := hrel
        clear hbelA
        have HSets := hide hsets
        have HRise := hide hrise
        clear hsets hrise
        by_cases hlt2 : n < il.length
        · obtain ⟨b7, o7, rfl, x7⟩ := (H7.out.below hbB) n (by rw [L4.out]; exact hlt2)
          obtain ⟨b6, o6, rfl, x6⟩ := (H6.out.below hbB) n hlt2
          have hB7 := HB7.out _ (getD_mem sl n (by rw [L4.out]; exact hlt2))
          obtain ⟨s, hse⟩ : ∃ s, sl.getD n 0 = s := ⟨_, rfl⟩
          obtain ⟨y, hye⟩ : ∃ y, il.getD n 0 = y := ⟨_, rfl⟩
          rw [hse] at x7 hB7
          rw [hye] at x6
          have HSe := hide hse
          have HYe := hide hye
          clear hse hye
          have ni : (n : Int) < (il.length : Int) := by omega
          by_cases c : s = 0 ∨ (0 ≤ s ∧ s < nk.length)
          case neg =>
            have hbn := hide hbB
            clear hbB
            have sz : (s == 0) = false := beq_eq_false_iff_ne.2 (by omega)
            by_cases sn : s < 0
            · go_wp2_with fail
              go_ret2
              exact PDom.no hbn.out
            · have sk : (nk.length : Int) ≤ s := by omega
              go_wp2_with fail
              go_ret2
              exact PDom.no hbn.out
          have HC := hide c
          have KEY : ∀ (wx : World), Below w.heap.size w wx → (n = 0 ∨ ∃ y0, il.getD (n - 1) 0 = y0 ∧ y0 < y) → ∃ (m : Nat), m ≤ il.length ∧ (Value.int .i64 ((n : Int) + 1)) = .int .i64 m ∧ Below w.heap.size w wx ∧ (∀ j, j < m → sl.getD j 0 = 0 ∨ (0 ≤ sl.getD j 0 ∧ sl.getD j 0 < nk.length)) ∧ ∀ j, j + 1 < m → il.getD j 0 < il.getD (j + 1) 0 := by
            intro wx hwx hq
            refine ⟨n + 1, by omega, by go_num, hwx, fun j hj => ?_, fun j hj => ?_⟩
            · by_cases e : j = n
              · subst e; rw [HSe.out]; exact HC.out
              · exact HSets.out j (by omega)
            · by_cases e : j + 1 = n
              · subst e
                rcases hq with hq | ⟨y0, hq1, hq2⟩
                · omega
                · rw [Nat.add_sub_cancel] at hq1; rw [hq1, HYe.out]; exact hq2
              · exact HRise.out j (by omega)
          have KEY := hide KEY
          as_aux_lemma =>
            by_cases sz : s = 0
            · subst sz
              by_cases n0 : n = 0
              · have gd : decide ((0 : Int) < (n : Int)) = false := decide_eq_false (by omega)
                have gd2 : decide (0 < n) = false := decide_eq_false (by omega)
                have N0 := hide n0
                clear n0
                go_upto_region 30 with fail
                go_quiet (fail)
                go_wp2_with fail
                go_roundw
                case rel => exact KEY.out _ (below_drewN hbB _) (.inl N0.out)
                case measure => simp [intOf]; omega
              · obtain ⟨b6', o6', e6, x60⟩ := (H6.out.below hbB) (n - 1) (by omega)
                obtain ⟨rfl, rfl⟩ : b6 = b6' ∧ o6 = o6' := by simpa using e6
                obtain ⟨y0, hy0e⟩ : ∃ y0, il.getD (n - 1) 0 = y0 := ⟨_, rfl⟩
                rw [hy0e] at x60
                have HY0 := hide hy0e
                clear e6 hy0e
                have nn : (0 : Int) < (n : Int) := by omega
                have nn2 : 0 < n := by omega
                have nj : (n : Int) - 1 < (il.length : Int) := by omega
                by_cases q : y0 < y
                · go_upto_region 30 with fail
                  go_quiet (fail)
                  go_wp2_with fail
                  go_roundw
                  case rel => exact KEY.out _ (below_drewN hbB _) (.inr ⟨y0, HY0.out, q⟩)
                  case measure => simp [intOf]; omega
                · go_upto_region 30 with fail
                  go_quiet (fail)
                  go_wp2_with fail
                  go_ret2
                  exact PDom.no (below_drewN hbB _)
            · have szb : (s == 0) = false := beq_eq_false_iff_ne.2 sz
              have s1 : 0 ≤ s := by rcases HC.out with h | h; (exact absurd h sz); (exact h.1)
              have s2 : s < (nk.length : Int) := by rcases HC.out with h | h; (exact absurd h sz); (exact h.2)
              by_cases n0 : n = 0
              · have gd : decide ((0 : Int) < (n : Int)) = false := decide_eq_false (by omega)
                have gd2 : decide (0 < n) = false := decide_eq_false (by omega)
                have N0 := hide n0
                clear n0
                go_upto_region 30 with fail
                go_quiet (fail)
                go_wp2_with fail
                go_roundw
                case rel => exact KEY.out _ (below_drewN hbB _) (.inl N0.out)
                case measure => simp [intOf]; omega
              · obtain ⟨b6', o6', e6, x60⟩ := (H6.out.below hbB) (n - 1) (by omega)
                obtain ⟨rfl, rfl⟩ : b6 = b6' ∧ o6 = o6' := by simpa using e6
                obtain ⟨y0, hy0e⟩ : ∃ y0, il.getD (n - 1) 0 = y0 := ⟨_, rfl⟩
                rw [hy0e] at x60
                have HY0 := hide hy0e
                clear e6 hy0e
                have nn : (0 : Int) < (n : Int) := by omega
                have nn2 : 0 < n := by omega
                have nj : (n : Int) - 1 < (il.length : Int) := by omega
                by_cases q : y0 < y
                · go_upto_region 30 with fail
                  go_quiet (fail)
                  go_wp2_with fail
                  go_roundw
                  case rel => exact KEY.out _ (below_drewN hbB _) (.inr ⟨y0, HY0.out, q⟩)
                  case measure => simp [intOf]; omega
                · go_upto_region 30 with fail
                  go_quiet (fail)
                  go_wp2_with fail
                  go_ret2
                  exact PDom.no (below_drewN hbB _)
        · obtain rfl : n = il.length := by omega
          have hRis := rising_of HRise.out
          have HRis := hide hRis
          clear hRis
          go_wp2_with fail
          go_loopw [179] (fun i wx => ∃ (n : Nat), n ≤ lk.length ∧ i = .int .i64 n ∧ Below w.heap.size w wx ∧ ∀ i j, j < i → i < n → lk.getD j 0 ≠ lk.getD i 0) (fun i _ => lk.length - (intOf i).toNat)
          case atStart => exact ⟨0, Nat.zero_le _, rfl, hbB, fun i j _ hi => by omega⟩
          case round =>
            obtain ⟨n, hn, rfl, hbC, hdis⟩ := hrel
            have HDis := hide hdis
            clear hdis hbB
            by_cases hlt3 : n < lk.length
            · as_aux_lemma =>
                have ni : (n : Int) < (lk.length : Int) := by omega
                obtain ⟨b4, o4, rfl, x4⟩ := (H4.out.below hbC) n hlt3
                go_wp2_with fail
                go_loopw [26] (fun i wx => ∃ (q : Nat), q ≤ n ∧ i = .int .i64 q ∧ Below w.heap.size w wx ∧ ∀ j, j < q → lk.getD j 0 ≠ lk.getD n 0) (fun i _ => n - (intOf i).toNat)
                case atStart => exact ⟨0, Nat.zero_le _, rfl, hbC, fun j hj => by omega⟩
                case round =>
                  obtain ⟨q, hq, rfl, hbD, hd2⟩ := hrel
                  clear hbC x4
                  have HD2 := hide hd2
                  clear hd2
                  by_cases hlt4 : q < n
                  · obtain ⟨b4', o4', e4, x4⟩ := (H4.out.below hbD) n hlt3
                    obtain ⟨rfl, rfl⟩ : b4 = b4' ∧ o4 = o4' := by simpa using e4
                    obtain ⟨b4', o4', e4', x4q⟩ := (H4.out.below hbD) q (by omega)
                    obtain ⟨rfl, rfl⟩ : b4 = b4' ∧ o4 = o4' := by simpa using e4'
                    obtain ⟨y, hye⟩ : ∃ y, lk.getD n 0 = y := ⟨_, rfl⟩
                    obtain ⟨z, hze⟩ : ∃ z, lk.getD q 0 = z := ⟨_, rfl⟩
                    rw [hye] at x4
                    rw [hze] at x4q
                    have HYe := hide hye
                    have HZe := hide hze
                    have qi : (q : Int) < (lk.length : Int) := by omega
                    clear e4 e4' hye hze
                    by_cases c : z = y
                    · subst c
                      go_wp2_with fail
                      go_quiet (fail)
                      go_wp2_with fail
                      go_ret2
                      exact PDom.no (below_drewN hbD _)
                    · have cb : (z == y) = false := beq_eq_false_iff_ne.2 c
                      go_wp2_with fail
                      go_quiet (fail)
                      go_wp2_with fail
                      go_roundw
                      case rel =>
                        refine ⟨q + 1, by omega, by go_num, below_drewN hbD _, fun j hj => ?_⟩
                        by_cases e : j = q
                        · subst e; rw [HZe.out, HYe.out]; exact c
                        · exact HD2.out j (by omega)
                      case measure => simp [intOf]; omega
                  · go_wp2_with fail
                    go_roundw
                    case rel =>
                      refine ⟨n + 1, by omega, by go_num, hbD, fun i j hji hi => ?_⟩
                      by_cases e : i = n
                      · subst e; exact HD2.out j (by omega)
                      · exact HDis.out i j hji (by omega)
                    case measure => simp [intOf]; omega

            · obtain rfl : n = lk.length := by omega
              go_wp2_with fail
              go_loopw [27, 199] (fun tv i wx => ∃ (n : Nat), n ≤ lk.length ∧ i = .int .i64 n ∧ tv = .int .i64 (offs Ls n : Nat) ∧ Below w.heap.size w wx) (fun _ i _ => lk.length - (intOf i).toNat)
              case atStart => exact ⟨0, Nat.zero_le _, rfl, rfl, hbC⟩
              case round =>
                obtain ⟨n, hn, rfl, rfl, hbD⟩ := hrel
                clear hbC
                by_cases hlt4 : n < lk.length
                · obtain ⟨b5, o5, ai, ci, rfl, x5, _⟩ := (H5.out.below hbD) n (by rw [L3.out]; exact hlt4)
                  have os := offs_succ Ls n
                  have ob := offs_mono Ls (i := n + 1) (j := lk.length) (by omega)
                  have ni : (n : Int) < (lk.length : Int) := by omega
                  have OS := hide os
                  generalize (Ls.getD n []).length = q at *
                  have qb : (offs Ls n : Int) + (q : Int) ≤ 65536 := by have := OS.out; omega
                  generalize offs Ls n = o at *
                  clear os ob
                  go_wp2_with fail
                  go_roundw
                  case rel => exact ⟨n + 1, by omega, by go_num, by rw [OS.out]; go_num, hbD⟩
                  case measure => simp [intOf]; omega
                · obtain rfl : n = lk.length := by omega
                  obtain ⟨tot, htot⟩ : ∃ tot, offs Ls lk.length = tot := ⟨_, rfl⟩
                  have mkB : ∀ w, (Instr.makeSlice 42 (.int .i64 (tot : Int)) (.int .i64 (tot : Int))).run Try.prog w = .ok (.slice (some ⟨w.heap.size, 0, none⟩) tot tot) (w.alloc (.cells (brow tot) 4)) := fun w => makeB _ (by omega) w
                  rw [htot]
                  have HTot := hide htot
                  clear htot
                  go_wp2_with fail
                  as_aux_lemma =>
                    generalize wr = wB at *
                    have st0 : FSt wB (wB.alloc (.cells (brow tot) 4)) (FL nk nl nr il sl lk Ls tot 0 0) := ⟨(Below.refl _ _).alloc (Nat.le_refl _) _, by rw [FL_start]; exact ownB_made wB tot, by simp⟩
                    clear mkB
                    go_loopw [30, 214] (fun ov i wx => ∃ (n : Nat), n ≤ lk.length ∧ i = .int .i64 n ∧ ov = .int .i64 (offs Ls n : Nat) ∧ FSt wB wx (FL nk nl nr il sl lk Ls tot n 0) ∧ ∀ i, i < n → Rising (Ls.getD i [])) (fun _ i _ => lk.length - (intOf i).toNat)
                    case atStart => exact ⟨0, Nat.zero_le _, rfl, rfl, st0, fun i hi => by omega⟩
                    case round =>
                      obtain ⟨n, hn, rfl, rfl, hF, hri⟩ := hrel
                      clear st0
                      have HRI := hide hri
                      clear hri
                      by_cases hlt6 : n < lk.length
                      · have os := offs_succ Ls n
                        have ob := offs_mono Ls (i := n + 1) (j := lk.length) (by omega)
                        rw [HTot.out] at ob
                        obtain ⟨b5, o5, ai, ci, rfl, x5, r5⟩ := (H5.out.below hbD) n (by rw [L3.out]; exact hlt6)
                        obtain ⟨xs, hxs⟩ : ∃ xs, Ls.getD n [] = xs := ⟨_, rfl⟩
                        obtain ⟨o, ho⟩ : ∃ o, offs Ls n = o := ⟨_, rfl⟩
                        rw [hxs] at x5 r5 os
                        rw [ho] at os ⊢
                        have HXs := hide hxs
                        have HO := hide ho
                        have HR5 := hide r5
                        have x5' := Below.seen hF.bel (cell_lt x5) x5
                        have xb : xs.length + o ≤ tot := by omega
                        have tb : tot ≤ 65536 := by have := HTot.out; omega
                        have ni : (n : Int) < (lk.length : Int) := by omega
                        clear hxs ho r5 os ob x5
                        go_wp2_with fail
                        go_loopw [33] (fun i wx => ∃ (j : Nat), 1 ≤ j ∧ (j ≤ xs.length ∨ j = 1) ∧ i = .int .i64 j ∧ FSt wB wx (FL nk nl nr il sl lk Ls tot n 0) ∧ ∀ b, b + 1 < j → xs.getD b 0 < xs.getD (b + 1) 0) (fun i _ => xs.length - (intOf i).toNat)
                        case atStart => exact ⟨1, Nat.le_refl _, .inr rfl, rfl, hF, fun b hb => by omega⟩
                        case round =>
                          obtain ⟨j, hj1, hj2, rfl, hF', hup⟩ := hrel
                          clear hF x5'
                          have HUp := hide hup
                          clear hup
                          by_cases hlt7 : j < xs.length
                          · obtain ⟨bx, ox, rfl, y1⟩ := (HR5.out.below hF'.bel) j hlt7
                            obtain ⟨bx', ox', ex, y0⟩ := (HR5.out.below hF'.bel) (j - 1) (by omega)
                            obtain ⟨rfl, rfl⟩ : bx = bx' ∧ ox = ox' := by simpa using ex
                            obtain ⟨u, hu⟩ : ∃ u, xs.getD j 0 = u := ⟨_, rfl⟩
                            obtain ⟨v, hv⟩ : ∃ v, xs.getD (j - 1) 0 = v := ⟨_, rfl⟩
                            rw [hu] at y1
                            rw [hv] at y0
                            have HU := hide hu
                            have HV := hide hv
                            have ji : (j : Int) < (xs.length : Int) := by omega
                            have ji1 : (j : Int) - 1 < (xs.length : Int) := by omega
                            clear ex hu hv
                            by_cases c : v < u
                            · go_wp2_with fail
                              go_quiet (fail)
                              go_wp2_with fail
                              go_roundw
                              case rel =>
                                refine ⟨j + 1, by omega, .inl (by omega), by go_num, hF'.drewN _, fun b hb => ?_⟩
                                by_cases e : b + 1 = j
                                · have e2 : b = j - 1 := by omega
                                  rw [e, e2, HU.out, HV.out]; exact c
                                · exact HUp.out b (by omega)
                              case measure => simp [intOf]; omega
                            · go_wp2_with fail
                              go_quiet (fail)
                              go_wp2_with fail
                              go_ret2
                              exact PDom.no (below_drewN (hbD.trans (hF'.bel.mono hbD.size)) _)
                          · have hRX : Rising xs := rising_of fun b hb => HUp.out b (by omega)
                            have HRX := hide hRX
                            clear hRX HUp
                            go_wp2_with fail
                            as_aux_lemma =>
                              go_loopw [34, 239] (fun pv jv wx => ∃ (p j : Nat), j ≤ xs.length ∧ p ≤ il.length ∧ (j < xs.length → p ≤ idx il (xs.getD j 0)) ∧ pv = .int .i64 p ∧ jv = .int .i64 j ∧ FSt wB wx (FL nk nl nr il sl lk Ls tot n j)) (fun _ jv _ => xs.length - (intOf jv).toNat)
                              case atStart => exact ⟨0, 0, Nat.zero_le _, Nat.zero_le _, fun _ => Nat.zero_le _, rfl, rfl, hF'⟩
                              case round =>
                                obtain ⟨p, j, hj, hp, hpi, rfl, rfl, hG⟩ := hrel
                                clear hF'
                                by_cases hlt8 : j < xs.length
                                · as_aux_lemma =>
                                    have hpf := hpi hlt8
                                    have hfl := idx_le il (xs.getD j 0)
                                    have hfw := first_le (il := il) HRX.out hlt8
                                    have hwl := wend_le il xs j
                                    obtain ⟨fs, hfs⟩ : ∃ fs, idx il (xs.getD j 0) = fs := ⟨_, rfl⟩
                                    obtain ⟨we, hwe⟩ : ∃ we, wend il xs j = we := ⟨_, rfl⟩
                                    rw [hfs] at hpf hfl hfw
                                    rw [hwe] at hfw hwl
                                    have HFs := hide hfs
                                    have HWe := hide hwe
                                    have ji : (j : Int) < (xs.length : Int) := by omega
                                    clear hpi hfs hwe
                                    obtain ⟨bx, ox, rfl, _⟩ := HR5.out j hlt8
                                    go_wp2_with fail
                                    go_loopw [34] (fun pv wx => ∃ (p : Nat), p ≤ fs ∧ pv = .int .i64 p ∧ FSt wB wx (FL nk nl nr il sl lk Ls tot n j)) (fun pv _ => il.length - (intOf pv).toNat)
                                    case atStart => exact ⟨p, hpf, rfl, hG⟩
                                    case round =>
                                      obtain ⟨p9, hp9, rfl, hG9⟩ := hrel
                                      clear hG hpf
                                      have hbW := hbD.trans (hG9.bel.mono hbD.size)
                                      obtain ⟨bx', ox', ex, y1⟩ := (HR5.out.below hG9.bel) j hlt8
                                      obtain ⟨rfl, rfl⟩ : bx = bx' ∧ ox = ox' := by simpa using ex
                                      obtain ⟨u, hu⟩ : ∃ u, xs.getD j 0 = u := ⟨_, rfl⟩
                                      rw [hu] at y1
                                      have HU := hide hu
                                      clear ex hu
                                      by_cases c9 : p9 < fs
                                      · obtain ⟨b6, o6, rfl, x6⟩ := (H6.out.below hbW) p9 (by omega)
                                        obtain ⟨z, hz⟩ : ∃ z, il.getD p9 0 = z := ⟨_, rfl⟩
                                        have hzu : z < u := by
                                          have := (idx_iff il HRis.out (xs.getD j 0) p9 (by omega)).2 (by rw [HFs.out]; exact c9)
                                          rw [hz, HU.out] at this; exact this
                                        rw [hz] at x6
                                        have pi : (p9 : Int) < (il.length : Int) := by omega
                                        clear hz hbW
                                        go_wp2_with fail
                                        go_quiet (fail)
                                        go_wp2_with fail
                                        go_roundw
                                        case rel => exact ⟨p9 + 1, by omega, by go_num, hG9.drewN _⟩
                                        case measure => simp [intOf]; omega
                                      · obtain rfl : p9 = fs := by omega
                                        go_upto_region 63 with fail
                                        go_cut [256] from 242 to 258 (fun v wx => v = .bool false ∧ FSt wB wx (FL nk nl nr il sl lk Ls tot n j))
                                        case first =>
                                          by_cases d9 : p9 < il.length
                                          · obtain ⟨b6, o6, rfl, x6⟩ := (H6.out.below hbW) p9 (by omega)
                                            obtain ⟨z, hz⟩ : ∃ z, il.getD p9 0 = z := ⟨_, rfl⟩
                                            have hzu : ¬ z < u := by
                                              intro q
                                              have := (idx_iff il HRis.out (xs.getD j 0) p9 (by omega)).1 (by rw [hz, HU.out]; exact q)
                                              rw [HFs.out] at this; omega
                                            rw [hz] at x6
                                            have pi : (p9 : Int) < (il.length : Int) := by omega
                                            clear hz hbW
                                            go_quiet (fail)
                                            go_wp2_with fail
                                            go_meet
                                            case rel => exact ⟨by simp, hG9.drewN _⟩
                                          · have pd : decide ((p9 : Int) < (il.length : Int)) = false := decide_eq_false (by omega)
                                            have pd2 : decide (p9 < il.length) = false := decide_eq_false (by omega)
                                            clear hbW
                                            go_quiet (fail)
                                            go_wp2_with fail
                                            go_meet
                                            case rel => exact ⟨rfl, hG9.drewN _⟩
                                        case rest =>
                                          obtain ⟨rfl, hG10⟩ := hcut
                                          clear hG9 hbW y1
                                          go_wp2_with fail
                                          as_aux_lemma =>
                                            obtain ⟨lx, hlx⟩ : ∃ lx, lk.getD n 0 = lx := ⟨_, rfl⟩
                                            have HLx := hide hlx
                                            clear hlx
                                            go_loopw [34, 36, 37] (fun pv sv gv wx => ∃ (p : Nat) (s g : Bool), p9 ≤ p ∧ p ≤ we ∧ pv = .int .i64 p ∧ sv = .bool s ∧ gv = .bool g ∧ FSt wB wx (FL nk nl nr il sl lk Ls tot n j) ∧ (p = p9 → s = false ∧ g = false) ∧ (p9 < p → s = Hold nk nl nr sl lx p9 ∧ (Hold nk nl nr sl lx p9 = false → g = true))) (fun pv _ _ _ => il.length - (intOf pv).toNat)
                                            case atStart => exact ⟨p9, false, false, Nat.le_refl _, hfw, rfl, rfl, rfl, hG10, fun _ => ⟨rfl, rfl⟩, fun h => by omega⟩
                                            case round =>
                                              obtain ⟨p, s, g, hp1, hp2, rfl, rfl, rfl, hG11, hA, hB⟩ := hrel
                                              clear hG10
                                              have HA := hide hA
                                              have HB := hide hB
                                              clear hA hB
                                              by_cases c10 : p < we
                                              · have hpm : p < il.length := by omega
                                                have pi : (p : Int) < (il.length : Int) := by omega
                                                go_upto_region 67 with fail
                                                go_cut [281] from 259 to 296 (fun v wx => v = .bool true ∧ FSt wB wx (FL nk nl nr il sl lk Ls tot n j))
                                                case first =>
                                                  by_cases dj : j + 1 = xs.length
                                                  · have de : ((j : Int) + 1 == (xs.length : Int)) = true := beq_iff_eq.2 (by omega)
                                                    have DJ := hide dj
                                                    clear dj
                                                    go_quiet (fail)
                                                    go_wp2_with fail
                                                    go_meet
                                                    case rel => exact ⟨by simp, hG11.drewN _⟩
                                                  · have de : ((j : Int) + 1 == (xs.length : Int)) = false := beq_eq_false_iff_ne.2 (by omega)
                                                    have hbW := hbD.trans (hG11.bel.mono hbD.size)
                                                    obtain ⟨b6, o6, rfl, x6⟩ := (H6.out.below hbW) p hpm
                                                    obtain ⟨bx', ox', ex, y1⟩ := (HR5.out.below hG11.bel) (j + 1) (by omega)
                                                    obtain ⟨rfl, rfl⟩ : bx = bx' ∧ ox = ox' := by simpa using ex
                                                    have hzv : il.getD p 0 < xs.getD (j + 1) 0 := by
                                                      rcases (in_window HRis.out hlt8 hpm).2 (by rw [HWe.out]; exact c10) with h | h
                                                      · omega
                                                      · exact h
                                                    generalize il.getD p 0 = z at *
                                                    generalize xs.getD (j + 1) 0 = v at *
                                                    have j1i : (j : Int) + 1 < (xs.length : Int) := by omega
                                                    clear ex hbW
                                                    go_quiet (fail)
                                                    go_wp2_with fail
                                                    go_meet
                                                    case rel => exact ⟨by simp, hG11.drewN _⟩
                                                case rest =>
                                                  obtain ⟨rfl, hG12⟩ := hcut
                                                  clear hG11
                                                  have hbW := hbD.trans (hG12.bel.mono hbD.size)
                                                  obtain ⟨b7, o7, rfl, x7⟩ := (H7.out.below hbW) p (by rw [L4.out]; exact hpm)
                                                  obtain ⟨b4, o4, rfl, x4⟩ := (H4.out.below hbW) n hlt6
                                                  have hset := HSets.out p hpm
                                                  rw [HLx.out] at x4
                                                  obtain ⟨hb, hhb⟩ : ∃ hb, Hold nk nl nr sl lx p = hb := ⟨_, rfl⟩
                                                  have INS := fun (q : Nat) => insub_any nk nl nr a1 a2 a3 c1 c2 c3 nk.length lx (wc.drewN q) (H1.out.below (below_drewN hbW q)) (H2.out.below (below_drewN hbW q)) (H3.out.below (below_drewN hbW q)) rfl L1.out L2.out m1 HTree.out.dn (nk.length + 1) (sl.getD p 0) (by omega) (by omega)
                                                  have eH : inSub nk nl nr lx (nk.length + 1) (sl.getD p 0) = hb := hhb
                                                  rw [eH] at INS
                                                  have INS := hide INS
                                                  have HHb := hide hhb
                                                  generalize sl.getD p 0 = s0 at *
                                                  clear eH hhb hbW hset
                                                  have ni' : (n : Int) < (lk.length : Int) := by omega
                                                  go_upto_region 68 with fail
                                                  go_quiet ((go_at_call 29; exact Calls.quiet_of_same (INS.out _)))
                                                  cases hb
                                                  · go_wp2_with fail
                                                    go_roundw
                                                    case rel =>
                                                      refine ⟨p + 1, s, true, by omega, by omega, by go_num, rfl, rfl, hG12.drewN _, fun h => by omega, fun _ => ⟨?_, fun _ => rfl⟩⟩
                                                      by_cases e : p = p9
                                                      · rw [(HA.out e).1, ← e, HHb.out]
                                                      · exact (HB.out (by omega)).1
                                                    case measure => simp [intOf]; omega
                                                  · cases g
                                                    · go_wp2_with fail
                                                      go_roundw
                                                      case rel =>
                                                        refine ⟨p + 1, true, false, by omega, by omega, by go_num, rfl, rfl, hG12.drewN _, fun h => by omega, fun _ => ?_⟩
                                                        by_cases e : p = p9
                                                        · subst e; rw [HHb.out]; exact ⟨rfl, fun h => by cases h⟩
                                                        · have q := HB.out (by omega)
                                                          cases hH : Hold nk nl nr sl lx p9 with
                                                          | false => have := q.2 hH; cases this
                                                          | true => exact ⟨rfl, fun h => by cases h⟩
                                                      case measure => simp [intOf]; omega
                                                    · go_wp2_with fail
                                                      go_ret2
                                                      exact PDom.no (below_drewN (hbD.trans (hG12.bel.mono hbD.size)) _)
                                              · obtain rfl : p = we := by omega
                                                go_upto_region 67 with fail
                                                go_cut [281] from 259 to 296 (fun v wx => v = .bool false ∧ FSt wB wx (FL nk nl nr il sl lk Ls tot n j))
                                                case first =>
                                                  by_cases d10 : p < il.length
                                                  · have hnw := fun q => c10 (by have := (in_window HRis.out hlt8 d10).1 q; rw [HWe.out] at this; exact this)
                                                    have dj : ¬ j + 1 = xs.length := fun q => hnw (.inl q)
                                                    have de : ((j : Int) + 1 == (xs.length : Int)) = false := beq_eq_false_iff_ne.2 (by omega)
                                                    have hbW := hbD.trans (hG11.bel.mono hbD.size)
                                                    obtain ⟨b6, o6, rfl, x6⟩ := (H6.out.below hbW) p d10
                                                    obtain ⟨bx', ox', ex, y1⟩ := (HR5.out.below hG11.bel) (j + 1) (by omega)
                                                    obtain ⟨rfl, rfl⟩ : bx = bx' ∧ ox = ox' := by simpa using ex
                                                    have hzv : ¬ il.getD p 0 < xs.getD (j + 1) 0 := fun q => hnw (.inr q)
                                                    generalize il.getD p 0 = z at *
                                                    generalize xs.getD (j + 1) 0 = v at *
                                                    have j1i : (j : Int) + 1 < (xs.length : Int) := by omega
                                                    have pi : (p : Int) < (il.length : Int) := by omega
                                                    clear ex hbW hnw
                                                    go_quiet (fail)
                                                    go_wp2_with fail
                                                    go_meet
                                                    case rel => exact ⟨by simp, hG11.drewN _⟩
                                                  · have pd : decide ((p : Int) < (il.length : Int)) = false := decide_eq_false (by omega)
                                                    have pd2 : decide (p < il.length) = false := decide_eq_false (by omega)
                                                    go_quiet (fail)
                                                    go_wp2_with fail
                                                    go_meet
                                                    case rel => exact ⟨by simp, hG11.drewN _⟩
                                                case rest =>
                                                  obtain ⟨rfl, hG12⟩ := hcut
                                                  clear hG11
                                                  have hk : s = keep nk nl nr il sl lx xs j := keep_of HRis.out HRX.out hlt8 s g (fun h => (HA.out (by rw [HWe.out, HFs.out] at h; exact h)).1) (fun h => by rw [HFs.out]; exact (HB.out (by rw [HWe.out, HFs.out] at h; exact h)).1)
                                                  have hob : offs Ls n + j < tot := by rw [HO.out]; omega
                                                  have hst := FL_step (nk := nk) (nl := nl) (nr := nr) (il := il) (sl := sl) (lk := lk) hob
                                                  rw [HXs.out, HLx.out, ← hk, HO.out] at hst
                                                  have hlen : (FL nk nl nr il sl lk Ls tot n j).length = tot := FL_length (by omega)
                                                  have cO := (hG12.own (o + j) (by omega)).1
                                                  have fO := (hG12.own (o + j) (by omega)).2
                                                  have R := hG12.set (o + j) s (by omega)
                                                  rw [hst] at R
                                                  have HR := hide R
                                                  generalize (FL nk nl nr il sl lk Ls tot n j).getD (o + j) false = ov at *
                                                  have oi : (o : Int) + (j : Int) < (tot : Int) := by omega
                                                  have hwx : j + 1 < xs.length → p ≤ idx il (xs.getD (j + 1) 0) := fun h => by
                                                    have := HWe.out; unfold wend at this; rw [if_neg (by omega)] at this; omega
                                                  have HWX := hide hwx
                                                  clear R hst hlen hk hob hG12 hwx
                                                  go_wp2_with fail
                                                  go_roundw
                                                  case rel => exact ⟨p, j + 1, by omega, hwl, HWX.out, rfl, by go_num, HR.out⟩
                                                  case measure => simp [intOf]; omega


                                · obtain rfl : j = xs.length := by omega
                                  have e1 : FL nk nl nr il sl lk Ls tot n xs.length = FL nk nl nr il sl lk Ls tot (n + 1) 0 := by rw [← FL_next, HXs.out]
                                  rw [e1] at hG
                                  clear e1
                                  go_wp2_with fail
                                  go_roundw
                                  case rel =>
                                    refine ⟨n + 1, by omega, by go_num, ?_, hG, fun i hi => ?_⟩
                                    · rw [offs_succ, HO.out, HXs.out]; go_num
                                    · by_cases e : i = n
                                      · subst e; rw [HXs.out]; exact HRX.out
                                      · exact HRI.out i (by omega)
                                  case measure => simp [intOf]; omega

                      · obtain rfl : n = lk.length := by omega
                        go_wp2_with fail
                        go_ret2
                        refine ⟨hbD.trans (hF.bel.mono hbD.size), .inr ⟨wB.heap.size, by rw [HTot.out]; rfl, ⟨L1.out, L2.out, L3.out, L4.out, ⟨lo, hi, HTree.out⟩, HSets.out, HRis.out, HDis.out, HRI.out⟩, hbD.size, hF.lt, ?_⟩⟩
                        have e : FL nk nl nr il sl lk Ls tot lk.length 0 = done nk nl nr il sl lk Ls lk.length := by
                          unfold FL; rw [HTot.out]; simp [flagsOf]
                        rw [← e]
                        exact hF.own

end Go.Proofs.Qxb6616202a.Prune
