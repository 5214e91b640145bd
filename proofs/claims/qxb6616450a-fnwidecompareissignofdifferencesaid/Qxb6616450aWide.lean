import Derived.Test.Qxb6616450aRows
import Derived.WalkKit
import Derived.WalkSpells
import Derived.RowKit3
import Derived.Deep.RegionWith
import Derived.BigRegion
import Derived.StillTailTactics
namespace Go.Proofs.Qxb6616450a.Wide
open Go.RowKit
set_option linter.unusedVariables false
set_option linter.unusedSimpArgs false

theorem hide {p : Prop} (h : p) : Hid p := h
theorem grown_trans {a b c : World} (h : Grown a b) (k : Grown b c) : Grown a c :=
  ⟨World.keptBut_trans h.1 k.1, fun x => (k.2.1 x).trans (h.2.1 x), Nat.le_trans h.2.2 k.2.2⟩

/-- -1, 0 or 1 as x is less than, equal to or greater than y. -/
def sgn (x y : Int) : Int := if x < y then -1 else if y < x then 1 else 0
def orr (a c : Int) : Int := if a = 0 then c else a

theorem cmp64 (x y : Int) (w : World) : Calls Try.prog 18 #[.int .i64 x, .int .i64 y] w fun e w' => e = .returned (.int .i64 (sgn x y)) ∧ w' = w := by
  unfold sgn
  by_cases c1 : x < y
  · rw [if_pos c1]
    go_enter Try.func18, Try.ntmps18
    go_wp2
    go_ret
    exact ⟨rfl, rfl⟩
  · rw [if_neg c1]
    by_cases c2 : y < x
    · rw [if_pos c2]
      go_enter Try.func18, Try.ntmps18
      go_wp2
      go_ret
      exact ⟨rfl, rfl⟩
    · rw [if_neg c2]
      go_enter Try.func18, Try.ntmps18
      go_wp2
      go_ret
      exact ⟨rfl, rfl⟩
theorem cmpu64 (x y : Int) (w : World) : Calls Try.prog 19 #[.int .u64 x, .int .u64 y] w fun e w' => e = .returned (.int .i64 (sgn x y)) ∧ w' = w := by
  unfold sgn
  by_cases c1 : x < y
  · rw [if_pos c1]
    go_enter Try.func19, Try.ntmps19
    go_wp2
    go_ret
    exact ⟨rfl, rfl⟩
  · rw [if_neg c1]
    by_cases c2 : y < x
    · rw [if_pos c2]
      go_enter Try.func19, Try.ntmps19
      go_wp2
      go_ret
      exact ⟨rfl, rfl⟩
    · rw [if_neg c2]
      go_enter Try.func19, Try.ntmps19
      go_wp2
      go_ret
      exact ⟨rfl, rfl⟩
theorem or2 (b : Nat) (x y : Int) (w : World) (h0 : w.cell? ⟨b, 0, none⟩ = some (.int .i64 x)) (h1 : w.cell? ⟨b, 1, none⟩ = some (.int .i64 y)) :
    Calls Try.prog 17 #[.slice (some ⟨b, 0, none⟩) 2 2] w fun e w' => e = .returned (.int .i64 (orr x y)) ∧ w' = w := by
  have HO : Hid (x = 0 → orr x y = y) := fun h => by unfold orr; rw [if_pos h]
  have HN : Hid (¬ x = 0 → orr x y = x) := fun h => by unfold orr; rw [if_neg h]
  generalize orr x y = r at *
  go_enter Try.func17, Try.ntmps17
  go_wp2
  go_loop [8] (fun i => ∃ k : Nat, k ≤ 2 ∧ i = .int .i64 k ∧ (1 ≤ k → x = 0) ∧ (2 ≤ k → y = 0)) (fun i => 2 - (intOf i).toNat)
  case atStart => exact ⟨0, by omega, rfl, fun h => by omega, fun h => by omega⟩
  case round =>
    obtain ⟨k, hk, rfl, g1, g2⟩ := hrel
    rcases (show k = 0 ∨ k = 1 ∨ k = 2 by omega) with rfl | rfl | rfl
    · clear g1 g2
      by_cases c : x = 0
      · subst c
        go_wp2
        go_round
        case rel => exact ⟨1, by omega, rfl, by simp, fun h => by omega⟩
        case measure => simp [intOf]
      · have cb : (x == 0) = false := beq_eq_false_iff_ne.2 c
        have hr := HN.out c
        subst hr
        go_wp2
        go_ret
        exact ⟨rfl, rfl⟩
    · have hx := g1 (by omega)
      subst hx
      clear g1 g2
      have hr := HO.out rfl
      subst hr
      by_cases c : r = 0
      · subst c
        go_wp2
        go_round
        case rel => exact ⟨2, by omega, rfl, by simp, by simp⟩
        case measure => simp [intOf]
      · have cb : (r == 0) = false := beq_eq_false_iff_ne.2 c
        go_wp2
        go_ret
        exact ⟨rfl, rfl⟩
    · have hx := g1 (by omega)
      have hy := g2 (by omega)
      subst hx
      subst hy
      clear g1 g2
      have hr := HO.out rfl
      subst hr
      go_wp2
      go_ret
      exact ⟨rfl, rfl⟩

theorem or_new (W : World) (b : Nat) (x y : Int) (hb : b = W.heap.size) :
    Calls Try.prog 17 #[.slice (some ⟨b, 0, none⟩) 2 2] (W.alloc (.cells #[.int .i64 x, .int .i64 y] 3)).drew fun e w' => e = .returned (.int .i64 (orr x y)) ∧ w' = (W.alloc (.cells #[.int .i64 x, .int .i64 y] 3)).drew := by
  subst hb
  refine or2 _ x y _ ?_ ?_
  · show (W.alloc (.cells #[.int .i64 x, .int .i64 y] 3)).cell? _ = _
    rw [cell_of_row _ _ _ _ 3 _ (heap_alloc_new W _)]; rfl
  · show (W.alloc (.cells #[.int .i64 x, .int .i64 y] 3)).cell? _ = _
    rw [cell_of_row _ _ _ _ 3 _ (heap_alloc_new W _)]; rfl

theorem region_still_tail {id : Nat} {Q : Exit → Act → World → Prop} {a : Act} {w : World} {l : List Oper} (n : Nat) (hm : Try.prog.follows .mixedOrders = true) (hB : Region.lexTailB .any l.toArray n = true)
    (h : wpStill Try.prog l.toArray w.drew (fun a' => wpList Try.prog l.toArray Q (l.drop n) a' w.drew) (l.take n) a) : (Code.region id l.toArray true).wp Try.prog Q a w := wp_region_still_tail n hm hB h

def wcmp (h l g k : Int) : Int := orr (sgn h g) (sgn l k)

set_option maxRecDepth 100000 in
theorem compare_any (h l g k : Int) (w : World) :
    Calls Try.prog 15 #[.agg #[.int .i64 h, .int .u64 l], .agg #[.int .i64 g, .int .u64 k]] w fun e w' => e = .returned (.int .i64 (wcmp h l g k)) ∧ Grown w w' := by
  unfold wcmp
  go_enter Try.func15, Try.ntmps15
  go_wp2
  refine region_still_tail 10 (by kernel_rfl) (by kernel_rfl) ?_
  simp only [List.take_succ_cons, List.take_zero, List.drop_succ_cons, List.drop_zero]
  still_step
  still_step
  still_step
  still_step
  still_call (cmp64 h g _)
  still_step
  still_step
  still_step
  still_step
  still_call (cmpu64 l k _)
  refine wpStill_nil ?_
  go_wp2_with (first
    | (go_at_call 17; refine (or_new _ _ _ _ ?_).mono ?_; (simp); rintro e w' ⟨rfl, rfl⟩))
  go_ret
  exact ⟨rfl, by repeat (first | exact Grown.refl _ | apply Grown.drew | apply Grown.alloc)⟩

theorem zcompare (h l g k : Int) (w : World) : Calls Try.prog 8 #[.int .i64 h, .int .u64 l, .int .i64 g, .int .u64 k] w fun e w' => e = .returned (.int .i64 (wcmp h l g k)) ∧ Grown w w' := by
  go_enter Try.func8, Try.ntmps8
  go_wp2_with fail
  refine (compare_any h l g k _).mono ?_
  rintro e w1 ⟨rfl, g1⟩
  go_wp2_with fail
  go_ret
  exact ⟨rfl, g1⟩

theorem sign_any (h l : Int) (w : World) : Calls Try.prog 14 #[.agg #[.int .i64 h, .int .u64 l]] w fun e w' => e = .returned (.int .i64 (wcmp h l 0 0)) ∧ Grown w w' := by
  go_enter Try.func14, Try.ntmps14
  go_wp2_with fail
  refine (compare_any h l 0 0 _).mono ?_
  rintro e w1 ⟨rfl, g1⟩
  go_wp2_with fail
  go_ret
  exact ⟨rfl, grown_trans ((Grown.refl _).alloc _ _) g1⟩

theorem zsign (h l : Int) (w : World) : Calls Try.prog 6 #[.int .i64 h, .int .u64 l] w fun e w' => e = .returned (.int .i64 (wcmp h l 0 0)) ∧ Grown w w' := by
  go_enter Try.func6, Try.ntmps6
  go_wp2_with fail
  refine (sign_any h l _).mono ?_
  rintro e w1 ⟨rfl, g1⟩
  go_wp2_with fail
  go_ret
  exact ⟨rfl, g1⟩

theorem not_i64 (h : Int) (h1 : -9223372036854775808 ≤ h) (h2 : h ≤ 9223372036854775807) : bits .xor .i64 (-1) h = -1 - h := by
  show IntKind.i64.wrap ((BitVec.ofInt 64 (-1) ^^^ BitVec.ofInt 64 h).toNat : Int) = _
  have e1 : BitVec.ofInt 64 (-1) = BitVec.allOnes 64 := by decide
  rw [e1, BitVec.allOnes_xor, BitVec.toNat_not, BitVec.toNat_ofInt]
  simp only [IntKind.wrap, IntKind.bits, IntKind.signed]
  simp
  omega
theorem not_u64 (l : Int) (h1 : 0 ≤ l) (h2 : l ≤ 18446744073709551615) : bits .xor .u64 IntKind.u64.max l = 18446744073709551615 - l := by
  show IntKind.u64.wrap ((BitVec.ofInt 64 18446744073709551615 ^^^ BitVec.ofInt 64 l).toNat : Int) = _
  have e1 : BitVec.ofInt 64 18446744073709551615 = BitVec.allOnes 64 := by decide
  rw [e1, BitVec.allOnes_xor, BitVec.toNat_not, BitVec.toNat_ofInt]
  simp only [IntKind.wrap, IntKind.bits, IntKind.signed]
  simp
  omega
theorem neg_lo0 : IntKind.u64.wrap (bits .xor .u64 IntKind.u64.max 0 + 1) = 0 := by
  rw [not_u64 0 (by omega) (by omega)]; decide
theorem neg_lo1 (l : Int) (h1 : 0 < l) (h2 : l ≤ 18446744073709551615) :
    IntKind.u64.wrap (bits .xor .u64 IntKind.u64.max l + 1) = 18446744073709551616 - l := by
  rw [not_u64 l (by omega) h2]
  simp only [IntKind.wrap, IntKind.bits, IntKind.signed]
  simp
  omega

theorem sg1 : IntKind.i64.signed = true := rfl
theorem sg2 : IntKind.u64.signed = false := rfl
theorem zneg0 (h : Int) (h1 : -9223372036854775808 < h) (h2 : h ≤ 9223372036854775807) (w : World) :
    Calls Try.prog 7 #[.int .i64 h, .int .u64 0] w fun e w' => e = .returned (.tuple #[.int .i64 (-h), .int .u64 0]) ∧ w' = w := by
  have e1 := neg_lo0
  have e2 := not_i64 h (by omega) h2
  have s1 := sg1
  have s2 := sg2
  obtain ⟨n, hn⟩ : ∃ n, -1 - h = n := ⟨_, rfl⟩
  rw [hn] at e2
  have b1 : -9223372036854775808 ≤ n := by omega
  have b2 : n < 9223372036854775807 := by omega
  have HN : Hid (n + 1 = -h) := by show n + 1 = -h; omega
  clear hn h1 h2
  rw [← HN.out]
  go_enter Try.func7, Try.ntmps7
  go_wp2
  go_ret2
  exact ⟨rfl, rfl⟩
theorem zneg1 (h l : Int) (h1 : -9223372036854775808 ≤ h) (h2 : h ≤ 9223372036854775807) (l1 : 0 < l) (l2 : l ≤ 18446744073709551615) (w : World) :
    Calls Try.prog 7 #[.int .i64 h, .int .u64 l] w fun e w' => e = .returned (.tuple #[.int .i64 (-1 - h), .int .u64 (18446744073709551616 - l)]) ∧ w' = w := by
  have e1 := neg_lo1 l l1 l2
  have e2 := not_i64 h h1 h2
  have s1 := sg1
  have s2 := sg2
  obtain ⟨n, hn⟩ : ∃ n, -1 - h = n := ⟨_, rfl⟩
  obtain ⟨m, hm⟩ : ∃ m, 18446744073709551616 - l = m := ⟨_, rfl⟩
  rw [hn] at e2 ⊢
  rw [hm] at e1 ⊢
  have b1 : (m == 0) = false := beq_eq_false_iff_ne.2 (by omega)
  clear hn hm h1 h2 l1 l2
  go_enter Try.func7, Try.ntmps7
  go_wp2
  go_ret2
  exact ⟨rfl, rfl⟩

/-! The plain law of signs. -/
theorem sgn_neg (x y : Int) (h : x < y) : sgn x y = -1 := by unfold sgn; rw [if_pos h]
theorem sgn_pos (x y : Int) (h : y < x) : sgn x y = 1 := by unfold sgn; rw [if_neg (by omega), if_pos h]
theorem sgn_eq (x y : Int) (h : x = y) : sgn x y = 0 := by unfold sgn; rw [if_neg (by omega), if_neg (by omega)]
theorem wcmp_lt (h l g k : Int) (c : h < g) : wcmp h l g k = -1 := by unfold wcmp orr; rw [sgn_neg h g c, if_neg (by omega)]
theorem wcmp_gt (h l g k : Int) (c : g < h) : wcmp h l g k = 1 := by unfold wcmp orr; rw [sgn_pos h g c, if_neg (by omega)]
theorem wcmp_eq (h l k : Int) : wcmp h l h k = sgn l k := by unfold wcmp orr; rw [sgn_eq h h rfl, if_pos rfl]

def PT (w : World) (e : Ending) (w' : World) : Prop := e = .returned (.bool true) ∧ Grown w w'

/-! The law's walk, a way a shape of the number. -/
theorem core_m (h l nh nl : Int) (w : World) (hs : wcmp h l 0 0 = (-1)) (hns : wcmp nh nl 0 0 = 1) (c1 : h < 0) (c2 : (h == -9223372036854775808) = false)
    (hN : ∀ w, Calls Try.prog 7 #[.int .i64 h, .int .u64 l] w fun e w' => e = .returned (.tuple #[.int .i64 nh, .int .u64 nl]) ∧ w' = w) :
    Calls Try.prog 3 #[.int .i64 h, .int .u64 l] w (PT w) := by
  have HN := hide hN
  have k1 := zsign h l
  rw [hs] at k1
  have k2 := zsign nh nl
  rw [hns] at k2
  have K1 := hide k1
  have K2 := hide k2
  clear hN k1 k2 hs hns
  go_enter Try.func3, Try.ntmps3
  go_wp2_with fail
  refine (K1.out _).mono ?_
  rintro e w1 ⟨rfl, g1⟩
  go_wp2_with fail
  refine (HN.out _).mono ?_
  rintro e w2 ⟨rfl, hw⟩
  subst w2
  go_wp2_with fail
  refine (K2.out _).mono ?_
  rintro e w3 ⟨rfl, g3⟩
  go_wp2_with fail
  go_ret
  exact ⟨rfl, grown_trans g1 g3⟩
theorem core_mm (h l nh nl : Int) (w : World) (hs : wcmp h l 0 0 = (-1)) (hns : wcmp nh nl 0 0 = 1) (c1 : h < 0) (c2 : (h == -9223372036854775808) = true) (c3 : (l == 0) = false)
    (hN : ∀ w, Calls Try.prog 7 #[.int .i64 h, .int .u64 l] w fun e w' => e = .returned (.tuple #[.int .i64 nh, .int .u64 nl]) ∧ w' = w) :
    Calls Try.prog 3 #[.int .i64 h, .int .u64 l] w (PT w) := by
  have HN := hide hN
  have k1 := zsign h l
  rw [hs] at k1
  have k2 := zsign nh nl
  rw [hns] at k2
  have K1 := hide k1
  have K2 := hide k2
  clear hN k1 k2 hs hns
  go_enter Try.func3, Try.ntmps3
  go_wp2_with fail
  refine (K1.out _).mono ?_
  rintro e w1 ⟨rfl, g1⟩
  go_wp2_with fail
  refine (HN.out _).mono ?_
  rintro e w2 ⟨rfl, hw⟩
  subst w2
  go_wp2_with fail
  refine (K2.out _).mono ?_
  rintro e w3 ⟨rfl, g3⟩
  go_wp2_with fail
  go_ret
  exact ⟨rfl, grown_trans g1 g3⟩
theorem core_0 (h l nh nl : Int) (w : World) (hs : wcmp h l 0 0 = 0) (hns : wcmp nh nl 0 0 = 0) (c1 : (h == 0) = true) (c2 : (l == 0) = true) (c3 : (h == -9223372036854775808) = false) (c4 : decide (h < 0) = false)
    (hN : ∀ w, Calls Try.prog 7 #[.int .i64 h, .int .u64 l] w fun e w' => e = .returned (.tuple #[.int .i64 nh, .int .u64 nl]) ∧ w' = w) :
    Calls Try.prog 3 #[.int .i64 h, .int .u64 l] w (PT w) := by
  have HN := hide hN
  have k1 := zsign h l
  rw [hs] at k1
  have k2 := zsign nh nl
  rw [hns] at k2
  have K1 := hide k1
  have K2 := hide k2
  clear hN k1 k2 hs hns
  go_enter Try.func3, Try.ntmps3
  go_wp2_with fail
  refine (K1.out _).mono ?_
  rintro e w1 ⟨rfl, g1⟩
  go_wp2_with fail
  refine (HN.out _).mono ?_
  rintro e w2 ⟨rfl, hw⟩
  subst w2
  go_wp2_with fail
  refine (K2.out _).mono ?_
  rintro e w3 ⟨rfl, g3⟩
  go_wp2_with fail
  go_ret
  exact ⟨rfl, grown_trans g1 g3⟩
theorem core_p (h l nh nl : Int) (w : World) (hs : wcmp h l 0 0 = 1) (hns : wcmp nh nl 0 0 = (-1)) (c1 : (h == 0) = false) (c3 : (h == -9223372036854775808) = false) (c4 : decide (h < 0) = false)
    (hN : ∀ w, Calls Try.prog 7 #[.int .i64 h, .int .u64 l] w fun e w' => e = .returned (.tuple #[.int .i64 nh, .int .u64 nl]) ∧ w' = w) :
    Calls Try.prog 3 #[.int .i64 h, .int .u64 l] w (PT w) := by
  have HN := hide hN
  have k1 := zsign h l
  rw [hs] at k1
  have k2 := zsign nh nl
  rw [hns] at k2
  have K1 := hide k1
  have K2 := hide k2
  clear hN k1 k2 hs hns
  go_enter Try.func3, Try.ntmps3
  go_wp2_with fail
  refine (K1.out _).mono ?_
  rintro e w1 ⟨rfl, g1⟩
  go_wp2_with fail
  refine (HN.out _).mono ?_
  rintro e w2 ⟨rfl, hw⟩
  subst w2
  go_wp2_with fail
  refine (K2.out _).mono ?_
  rintro e w3 ⟨rfl, g3⟩
  go_wp2_with fail
  go_ret
  exact ⟨rfl, grown_trans g1 g3⟩
theorem core_pp (h l nh nl : Int) (w : World) (hs : wcmp h l 0 0 = 1) (hns : wcmp nh nl 0 0 = (-1)) (c1 : (h == 0) = true) (c2 : (l == 0) = false) (c3 : (h == -9223372036854775808) = false) (c4 : decide (h < 0) = false)
    (hN : ∀ w, Calls Try.prog 7 #[.int .i64 h, .int .u64 l] w fun e w' => e = .returned (.tuple #[.int .i64 nh, .int .u64 nl]) ∧ w' = w) :
    Calls Try.prog 3 #[.int .i64 h, .int .u64 l] w (PT w) := by
  have HN := hide hN
  have k1 := zsign h l
  rw [hs] at k1
  have k2 := zsign nh nl
  rw [hns] at k2
  have K1 := hide k1
  have K2 := hide k2
  clear hN k1 k2 hs hns
  go_enter Try.func3, Try.ntmps3
  go_wp2_with fail
  refine (K1.out _).mono ?_
  rintro e w1 ⟨rfl, g1⟩
  go_wp2_with fail
  refine (HN.out _).mono ?_
  rintro e w2 ⟨rfl, hw⟩
  subst w2
  go_wp2_with fail
  refine (K2.out _).mono ?_
  rintro e w3 ⟨rfl, g3⟩
  go_wp2_with fail
  go_ret
  exact ⟨rfl, grown_trans g1 g3⟩
theorem neg_walk (h l : Int) (h1 : -9223372036854775808 ≤ h) (h2 : h ≤ 9223372036854775807) (l1 : 0 ≤ l) (l2 : l ≤ 18446744073709551615) (w : World) :
    Calls Try.prog 3 #[.int .i64 h, .int .u64 l] w (PT w) := by
  by_cases cl : l = 0
  · subst cl
    by_cases cm : h = -9223372036854775808
    · subst cm
      go_enter Try.func3, Try.ntmps3
      go_wp2_with fail
      go_ret
      exact ⟨rfl, Grown.refl _⟩
    · have hN := zneg0 h (by omega) h2
      by_cases c1 : h < 0
      · exact core_m h 0 (-h) 0 w (wcmp_lt _ _ _ _ c1) (wcmp_gt _ _ _ _ (by omega)) c1 (beq_eq_false_iff_ne.2 cm) hN
      · by_cases c2 : h = 0
        · subst c2
          exact core_0 0 0 _ 0 w (by rw [wcmp_eq]; rfl) (by rw [show (-0 : Int) = 0 from rfl, wcmp_eq]; rfl) rfl rfl rfl rfl hN
        · exact core_p h 0 (-h) 0 w (wcmp_gt _ _ _ _ (by omega)) (wcmp_lt _ _ _ _ (by omega)) (beq_eq_false_iff_ne.2 c2) (beq_eq_false_iff_ne.2 cm) (decide_eq_false c1) hN
  · have hN := zneg1 h l h1 h2 (by omega) l2
    have hp : 0 < 18446744073709551616 - l := by omega
    by_cases c1 : h < 0
    · have hns : wcmp (-1 - h) (18446744073709551616 - l) 0 0 = 1 := by
        by_cases e : h = -1
        · subst e; rw [show (-1 - -1 : Int) = 0 from rfl, wcmp_eq, sgn_pos _ _ hp]
        · exact wcmp_gt _ _ _ _ (by omega)
      by_cases cm : h = -9223372036854775808
      · exact core_mm h l _ _ w (wcmp_lt _ _ _ _ c1) hns c1 (beq_iff_eq.2 cm) (beq_eq_false_iff_ne.2 cl) hN
      · exact core_m h l _ _ w (wcmp_lt _ _ _ _ c1) hns c1 (beq_eq_false_iff_ne.2 cm) hN
    · have hns : wcmp (-1 - h) (18446744073709551616 - l) 0 0 = -1 := wcmp_lt _ _ _ _ (by omega)
      by_cases c2 : h = 0
      · subst c2
        exact core_pp 0 l _ _ w (by rw [wcmp_eq, sgn_pos _ _ (by omega)]) hns rfl (beq_eq_false_iff_ne.2 cl) rfl rfl hN
      · exact core_p h l _ _ w (wcmp_gt _ _ _ _ (by omega)) hns (beq_eq_false_iff_ne.2 c2) (beq_eq_false_iff_ne.2 (by omega)) (decide_eq_false c1) hN
end Go.Proofs.Qxb6616450a.Wide
