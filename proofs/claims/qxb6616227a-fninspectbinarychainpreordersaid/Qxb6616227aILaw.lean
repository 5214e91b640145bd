import Derived.Test.Qxb6616227aIRec
namespace Go.Proofs.Qxb6616227a.Ins
open Go.RowKit
set_option linter.unusedVariables false
set_option linter.unusedSimpArgs false
attribute [local irreducible] wpStill

theorem Chain.extend {w w' : World} {leaf : Po} {ks : List Lk} {L : Nat} {N Y : Nat → Nat} {n : Nat} (h : Chain w leaf ks L N Y n) (hb : Below w.heap.size w w') {b yb : Nat} (hn : Node w' b (ks.getD n lk0) (left L N n) yb) :
    Chain w' leaf ks L (fun j => if j = n then b else N j) (fun j => if j = n then yb else Y j) (n + 1) := by
  have hl : ∀ j, j ≤ n → left L (fun j => if j = n then b else N j) j = left L N j := by
    intro j hj
    cases j with
    | zero => rfl
    | succ j => simp only [left]; rw [if_neg (by omega)]
  refine ⟨h.leaf.below hb, fun j hj => ?_⟩
  by_cases c : j = n
  · subst c
    simp only [if_true]
    rw [hl j (Nat.le_refl _)]
    exact hn
  · simp only [if_neg c]
    rw [hl j (by omega)]
    exact (h.node j (by omega)).below hb

set_option maxRecDepth 100000 in
set_option maxHeartbeats 8000000 in
theorem insp_law (lx ly skip : Int) (ks : List Lk) (a : Option Addr) (c : Nat) (w : World) (hR : RdK w a ks) (hl : ks.length ≤ maxLen) :
    Calls Try.prog 3 #[.int .i64 lx, .int .i64 ly, .slice a ks.length c, .int .i64 skip] w (TrueTo w) := by
  have hl' := hl
  unfold maxLen at hl'
  have HR := hide hR
  clear hR
  go_enter Try.func3, Try.ntmps3
  go_wp2_with fail
  refine (bytes_any lx ly skip a ks.length c w hl).mono ?_
  rintro e w' ⟨⟨b, rfl⟩, hw⟩
  subst w'
  cases b
  · go_wp2_with fail
    go_ret
    exact ⟨rfl, Below.refl _ _⟩
  by_cases hm : ks.length ≤ 32768
  case neg =>
    have g0 : decide ((32768 : Int) < (ks.length : Int)) = true := decide_eq_true (by omega)
    go_wp2_with fail
    go_ret
    exact ⟨rfl, Below.refl _ _⟩
  have g0 : decide ((32768 : Int) < (ks.length : Int)) = false := decide_eq_false (by omega)
  by_cases hz : ks.length = 0
  · have gz : ((ks.length : Int) == 0) = true := by simp [hz]
    have HZ := hide hz
    clear hz
    go_wp2_with fail
    refine (zident (lx, ly) _ skip).mono ?_
    rintro e w2 ⟨v2, base2, rfl, hb2, own2, bel2, hB2⟩
    have OW2 := hide (show w2.ownsRow base2 25 2 v2 (model (lx, ly) ks skip ks.length).length (pv (model (lx, ly) ks skip ks.length)) by rw [HZ.out]; exact own2)
    have BW2 := hide bel2
    clear own2 bel2
    have lf : w2.cell? ⟨w.heap.size, 0, none⟩ = some (.int .i64 lx) := seen BW2.out (by simp) (by rw [cell_of_row _ _ _ _ _ _ (heap_alloc_new w _)]; rfl)
    have lf1 : w2.cell? ⟨w.heap.size, 1, none⟩ = some (.int .i64 ly) := seen BW2.out (by simp) (by rw [cell_of_row _ _ _ _ _ _ (heap_alloc_new w _)]; rfl)
    have hsw : w.heap.size ≤ w2.heap.size := by have := BW2.out.size; simp at this; omega
    have BWW := hide (show Below w.heap.size w w2 from ((Below.refl _ _).alloc (Nat.le_refl _) _).trans (BW2.out.mono (by simp)))
    have hM := model_any lx ly skip ks a c w2.heap.size w HR.out hsw hm ks.length (Nat.le_refl _) w2 (.slice none 0 0) 0 [] BWW.out (Nat.le_refl _) (World.ownsRow_nil _ _ _ _) (by omega)
    have HM := hide hM
    clear hM
    go_wp2_with fail
    refine HM.out.mono ?_
    rintro e w3 ⟨v3, rfl, own3, bel3, hB3⟩
    obtain ⟨a2, c2, rfl, hl2, rp2⟩ := rdp_of OW2.out
    obtain ⟨a3, c3, rfl, hl3, rp3⟩ := rdp_of own3
    have e3 : [] ++ model (lx, ly) ks skip ks.length = model (lx, ly) ks skip ks.length := by simp
    have hml := model_le (lx, ly) ks skip ks.length
    have SM := hide (same_any (model (lx, ly) ks skip ks.length) a2 a3 c2 c3 w3 (rp2.below bel3) (by rw [e3] at rp3; exact rp3) (by omega))
    have B3 := hide (BWW.out.trans (bel3.mono hsw))
    rw [e3] at hl3
    rw [← hl3]
    clear own3 rp2 rp3 bel3 lf lf1 HM hl2 hl3 e3
    go_wp2_with fail
    refine SM.out.mono ?_
    rintro e w4 ⟨rfl, hb4⟩
    have B4 := hide (B3.out.trans (hb4.mono B3.out.size))
    clear hb4
    go_wp2_with fail
    go_ret
    exact ⟨rfl, B4.out⟩
  · obtain ⟨k, hk⟩ : ∃ k, ks.length = k + 1 := ⟨ks.length - 1, by omega⟩
    have gz : ((ks.length : Int) == 0) = false := by rw [beq_eq_false_iff_ne]; omega
    obtain ⟨b0, o0, rfl, p0, p1, p2, p3⟩ := (HR.out.below ((Below.refl _ _).alloc (Nat.le_refl _) (.cells #[.int .i64 lx, .int .i64 ly] 25))) 0 (by omega)
    have HL0 : Hid (ks.getD 0 lk0 = ks.getD 0 lk0) := rfl
    obtain ⟨l0, hl0⟩ : ∃ l, ks.getD 0 lk0 = l := ⟨_, rfl⟩
    rw [hl0] at p0 p1 p2 p3
    have HL := hide hl0
    clear HL0 hl0
    simp only [Nat.zero_mul, Nat.add_zero] at p0 p1 p2 p3
    have i0 : 0 < ks.length := by omega
    have HK := hide hk
    clear hk
    have lf : (w.alloc (.cells #[.int .i64 lx, .int .i64 ly] 25)).cell? ⟨w.heap.size, 0, none⟩ = some (.int .i64 lx) := by rw [cell_of_row _ _ _ _ _ _ (heap_alloc_new w _)]; rfl
    clear lf
    go_upto_region 9 with fail
    refine region_still_tail 19 (by kernel_rfl) (by kernel_rfl) ?_
    simp only [List.take_succ_cons, List.take_zero, List.drop_succ_cons, List.drop_zero]
    iterate 19 (refine still_yes (by kernel_rfl) (fun K hK => ?_); go_simp; refine hK _ ?_; clear hK K)
    refine wpStill_nil ?_
    go_wp2_with (first | (go_at_call 6; refine (make_any l0.o (lx, ly) l0.y _).mono ?_; rintro e w5 ⟨L, b5, y5, rfl, bel5, at5, nd5⟩; have BE5 := hide bel5; have ND5 := hide nd5; have AT5 := hide at5; clear bel5 at5 nd5))
    have C1 : Hid (Chain w5 (lx, ly) ks L (fun _ => b5) (fun _ => y5) 1) := ⟨AT5.out, fun j hj => by
      obtain rfl : j = 0 := by omega
      rw [HL.out]; exact ND5.out⟩
    have B51 : Hid (Below (w.alloc (.cells #[.int .i64 lx, .int .i64 ly] 25)).heap.size (w.alloc (.cells #[.int .i64 lx, .int .i64 ly] 25)) w5) := ⟨BE5.out.os, BE5.out.tape, BE5.out.output, BE5.out.size, BE5.out.block⟩
    clear p0 p1 p2 p3 BE5 ND5 AT5
    go_loopw [11, 12] (fun bv iv wr => ∃ (i L : Nat) (N Y : Nat → Nat), 1 ≤ i ∧ i ≤ ks.length ∧ iv = .int .i64 i ∧ bv = .pointer (some ⟨N (i - 1), 0, none⟩) ∧ Chain wr (lx, ly) ks L N Y i ∧ Below (w.alloc (.cells #[.int .i64 lx, .int .i64 ly] 25)).heap.size (w.alloc (.cells #[.int .i64 lx, .int .i64 ly] 25)) wr) (fun _ iv _ => ks.length - (intOf iv).toNat)
    case atStart => exact ⟨1, L, _, _, Nat.le_refl _, by omega, by go_num, rfl, C1.out, B51.out⟩
    case round =>
      obtain ⟨i, L2, N, Y, hi1, hi2, rfl, rfl, hC, hBw⟩ := hrel
      have HCH := hide hC
      have HBW := hide hBw
      have HBWW := hide (show Below w.heap.size w wr from ((Below.refl _ _).alloc (Nat.le_refl _) _).trans (hBw.mono (by simp)))
      clear hC hBw C1 B51
      by_cases hlt : i < ks.length
      · obtain ⟨b7, o7, hab, q0, q1, q2, q3⟩ := (HR.out.below HBWW.out) i hlt
        cases hab
        obtain ⟨l1, hl1⟩ : ∃ l, ks.getD i lk0 = l := ⟨_, rfl⟩
        rw [hl1] at q0 q1 q2 q3
        have HL1 := hide hl1
        clear hl1
        go_upto_region 13 with fail
        refine region_still_tail 23 (by kernel_rfl) (by kernel_rfl) ?_
        simp only [List.take_succ_cons, List.take_zero, List.drop_succ_cons, List.drop_zero]
        iterate 23 (refine still_yes (by kernel_rfl) (fun K hK => ?_); go_simp; refine hK _ ?_; clear hK K)
        refine wpStill_nil ?_
        go_wp2_with (first | (go_at_call 7; refine (nest_any l1.o l1.y (N (i - 1)) _).mono ?_; rintro e w6 ⟨b6, y6, rfl, bel6, nd6⟩; have BE6 := hide bel6; have ND6 := hide nd6; clear bel6 nd6))
        have BE6' : Below wr.heap.size wr w6 := ⟨BE6.out.os, BE6.out.tape, BE6.out.output, BE6.out.size, BE6.out.block⟩
        go_roundw
        case rel =>
          refine ⟨i + 1, L2, _, _, by omega, by omega, by go_num, ?_, HCH.out.extend BE6' (b := b6) (yb := y6) ?_, HBW.out.trans (BE6'.mono HBW.out.size)⟩
          · simp
          · rw [HL1.out]
            have e : left L2 N i = .iface 28 (.pointer (some ⟨N (i - 1), 0, none⟩)) := by
              obtain ⟨i', rfl⟩ : ∃ i', i = i' + 1 := ⟨i - 1, by omega⟩
              rfl
            rw [e]; exact ND6.out
        case measure => simp [intOf]; omega
      · obtain rfl : i = ks.length := by omega
        have hZ := zbin (lx, ly) ks L2 N Y k wr (by have := HCH.out; rw [HK.out] at this; exact this) (by have := HK.out; omega) skip
        rw [← HK.out, show k = ks.length - 1 by have := HK.out; omega] at hZ
        have HZB := hide hZ
        clear hZ
        go_wp2_with fail
        refine HZB.out.mono ?_
        rintro e w2 ⟨v2, rfl, own2, bel2, hB2⟩
        have OW2 := hide own2
        have BW2 := hide (HBW.out.trans (bel2.mono HBW.out.size))
        clear own2 bel2 hB2
        have lf : w2.cell? ⟨w.heap.size, 0, none⟩ = some (.int .i64 lx) := seen BW2.out (by simp) (by rw [cell_of_row _ _ _ _ _ _ (heap_alloc_new w _)]; rfl)
        have lf1 : w2.cell? ⟨w.heap.size, 1, none⟩ = some (.int .i64 ly) := seen BW2.out (by simp) (by rw [cell_of_row _ _ _ _ _ _ (heap_alloc_new w _)]; rfl)
        have hsw : w.heap.size ≤ w2.heap.size := by have := BW2.out.size; simp at this; omega
        have BWW := hide (show Below w.heap.size w w2 from ((Below.refl _ _).alloc (Nat.le_refl _) _).trans (BW2.out.mono (by simp)))
        have hM := model_any lx ly skip ks (some ⟨b0, o0, none⟩) c w2.heap.size w HR.out hsw hm ks.length (Nat.le_refl _) w2 (.slice none 0 0) 0 [] BWW.out (Nat.le_refl _) (World.ownsRow_nil _ _ _ _) (by omega)
        have HM := hide hM
        clear hM
        go_wp2_with fail
        refine HM.out.mono ?_
        rintro e w3 ⟨v3, rfl, own3, bel3, hB3⟩
        obtain ⟨a2, c2, rfl, hl2, rp2⟩ := rdp_of OW2.out
        obtain ⟨a3, c3, rfl, hl3, rp3⟩ := rdp_of own3
        have e3 : [] ++ model (lx, ly) ks skip ks.length = model (lx, ly) ks skip ks.length := by simp
        have hml := model_le (lx, ly) ks skip ks.length
        have SM := hide (same_any (model (lx, ly) ks skip ks.length) a2 a3 c2 c3 w3 (rp2.below bel3) (by rw [e3] at rp3; exact rp3) (by omega))
        have B3 := hide (BWW.out.trans (bel3.mono hsw))
        rw [e3] at hl3
        rw [← hl3]
        clear own3 rp2 rp3 bel3 lf lf1 HM hl2 hl3 e3
        go_wp2_with fail
        refine SM.out.mono ?_
        rintro e w4 ⟨rfl, hb4⟩
        have B4 := hide (B3.out.trans (hb4.mono B3.out.size))
        clear hb4
        go_wp2_with fail
        go_ret
        exact ⟨rfl, B4.out⟩
end Go.Proofs.Qxb6616227a.Ins
