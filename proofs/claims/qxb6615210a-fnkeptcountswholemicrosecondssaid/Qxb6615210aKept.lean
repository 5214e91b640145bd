import Derived.Test.Qxb6615210aRows
import Derived.WalkKit
import Derived.WalkSpells
import Derived.RowKit3
namespace Go.Proofs.Qxb6615210a.Kept
open Go.RowKit
set_option linter.unusedVariables false
set_option linter.unusedSimpArgs false

/-- The cells of a Meter whose LossThreshold is l, all else its zero value. -/
theorem built (l : Int) : ∃ cs : Array Value, (∀ w, (Instr.build 73 #[(0, .int .i64 l)]).run Try.prog w = .ok (.agg cs) w) ∧ cs[0]? = some (.int .i64 l) :=
  ⟨match (Instr.build 73 #[(0, .int .i64 l)]).run Try.prog default with | .ok (.agg c) _ => c | _ => #[], fun _ => by kernel_rfl, by kernel_rfl⟩

theorem grown_trans {a b c : World} (h : Grown a b) (k : Grown b c) : Grown a c :=
  ⟨World.keptBut_trans h.1 k.1, fun x => (k.2.1 x).trans (h.2.1 x), Nat.le_trans h.2.2 k.2.2⟩
theorem hide {p : Prop} (h : p) : Hid p := h

theorem wpList_build {ops : Array Oper} {rest : List Oper} {o : Oper} {a : Act} {w : World} {Q : Exit → Act → World → Prop} (hgd : o.guard = none) (s : Operand) (ho : o.op = .build 73 #[(0, s)]) (l : Int) (hs : a.eval s = .int .i64 l)
    (cs : Array Value) (hb : ∀ w, (Instr.build 73 #[(0, .int .i64 l)]).run Try.prog w = .ok (.agg cs) w) (h : wpList Try.prog ops Q rest (a.put o.dst (.agg cs)) w) : wpList Try.prog ops Q (o :: rest) a w := by
  refine wpList_plain hgd fun K hK => ?_
  unfold Oper.wp
  simp [execOp, ho, hs, hb, Result.andThen]
  exact hK _ _ h

set_option maxRecDepth 100000 in
set_option maxHeartbeats 1000000 in
theorem kept_neg (l : Int) (h : l ≤ 0) (w : World) :
    Calls Try.prog 11 #[.int .i64 l] w fun e w' => e = .returned (.int .i64 9223372036854775807) ∧ Grown w w' := by
  obtain ⟨cs, hb, h0⟩ := built l
  have hc : ∀ w : World, (w.alloc (.cells cs 73)).cell? ⟨w.heap.size, 0, none⟩ = some (.int .i64 l) := fun w => by
    rw [cell_of_row _ _ _ _ 73 _ (heap_alloc_new w _)]; exact h0
  clear h0
  go_enter Try.func11, Try.ntmps11
  go_wp2_with (first | refine wpList_build rfl (.tmp 4) rfl l rfl cs hb ?_ | go_in)
  go_ret
  exact ⟨rfl, by repeat (first | exact Grown.refl _ | apply Grown.drew | apply Grown.alloc)⟩

set_option maxRecDepth 100000 in
set_option maxHeartbeats 1000000 in
theorem kept_pos (l : Int) (h : 0 < l) (hm : l ≤ 9223372036854775807) (w : World) :
    Calls Try.prog 11 #[.int .i64 l] w fun e w' => e = .returned (.int .i64 (l / 1000)) ∧ Grown w w' := by
  obtain ⟨cs, hb, h0⟩ := built l
  have hc : ∀ w : World, (w.alloc (.cells cs 73)).cell? ⟨w.heap.size, 0, none⟩ = some (.int .i64 l) := fun w => by
    rw [cell_of_row _ _ _ _ 73 _ (heap_alloc_new w _)]; exact h0
  clear h0
  go_enter Try.func11, Try.ntmps11
  go_wp2_with (first | refine wpList_build rfl (.tmp 4) rfl l rfl cs hb ?_ | go_in)
  go_ret
  exact ⟨rfl, by repeat (first | exact Grown.refl _ | apply Grown.drew | apply Grown.alloc)⟩

def PT (w : World) (e : Ending) (w' : World) : Prop := e = .returned (.bool true) ∧ Grown w w'

set_option maxRecDepth 100000 in
set_option maxHeartbeats 1000000 in
theorem counts_walk (l k : Int) (hl : -9223372036854775808 ≤ l ∧ l ≤ 9223372036854775807) (w : World) :
    Calls Try.prog 4 #[.int .i64 l, .int .i64 k] w (PT w) := by
  obtain ⟨hl1, hl2⟩ := hl
  by_cases c1 : 0 ≤ k ∧ k ≤ 1048576
  case neg =>
    by_cases c2 : 0 ≤ k
    all_goals
      go_enter Try.func4, Try.ntmps4
      go_wp2_with fail
      go_ret
      exact ⟨rfl, Grown.refl _⟩
  obtain ⟨k1, k2⟩ := c1
  by_cases c2 : l ≤ 9223372036854775807 - 1000 * k
  case neg =>
    go_enter Try.func4, Try.ntmps4
    go_wp2_with fail
    go_ret
    exact ⟨rfl, Grown.refl _⟩
  by_cases c3 : l ≤ 0
  · go_enter Try.func4, Try.ntmps4
    go_wp2_with fail
    refine (kept_neg l c3 _).mono ?_
    rintro e w1 ⟨rfl, g1⟩
    go_wp2_with fail
    go_ret
    exact ⟨rfl, g1⟩
  · have p3 : 0 < l := by omega
    have d1 : 0 ≤ l / 1000 := by omega
    have d2 : l / 1000 ≤ 9223372036854775 := by omega
    have d3 : 0 ≤ l - l / 1000 * 1000 := by omega
    have d4 : l - l / 1000 * 1000 < 1000 := by omega
    have d5 : l / 1000 + k ≤ 9223372036854775807 := by omega
    have H6 : Hid ((l + 1000 * k) / 1000 = l / 1000 + k) := by show (l + 1000 * k) / 1000 = l / 1000 + k; omega
    have p4 : 0 < l + 1000 * k := by omega
    have p5 : l + 1000 * k ≤ 9223372036854775807 := by omega
    have hk := kept_pos l p3 hl2
    generalize l / 1000 = q at *
    have HK := hide hk
    clear hk
    go_enter Try.func4, Try.ntmps4
    go_wp2_with fail
    refine (HK.out _).mono ?_
    rintro e w1 ⟨rfl, g1⟩
    go_wp2_with fail
    refine (kept_pos (l + 1000 * k) p4 p5 _).mono ?_
    rintro e w2 ⟨rfl, g2⟩
    rw [H6.out]
    go_wp2_with fail
    go_ret
    exact ⟨rfl, grown_trans g1 g2⟩

theorem admits_yes (l d : Int) (h : l ≤ 0 ∨ d * 1000 ≤ l) (h1 : -9223372036854775 ≤ d) (h2 : d ≤ 9223372036854775) (w : World) :
    Calls Try.prog 13 #[.int .i64 l, .int .i64 d] w fun e w' => e = .returned (.bool true) ∧ w' = w := by
  by_cases c : l ≤ 0
  · go_enter Try.func13, Try.ntmps13
    go_wp2
    go_ret
    exact ⟨rfl, rfl⟩
  · have g : d * 1000 ≤ l := by omega
    clear h
    go_enter Try.func13, Try.ntmps13
    go_wp2
    go_ret
    exact ⟨by simp [c, g], rfl⟩
theorem admits_no (l d : Int) (c : 0 < l) (g : l < d * 1000) (h1 : -9223372036854775 ≤ d) (h2 : d ≤ 9223372036854775) (w : World) :
    Calls Try.prog 13 #[.int .i64 l, .int .i64 d] w fun e w' => e = .returned (.bool false) ∧ w' = w := by
  go_enter Try.func13, Try.ntmps13
  go_wp2
  go_ret
  exact ⟨by simp; omega, rfl⟩
theorem kept_ex (l d : Int) (hl : l ≤ 9223372036854775807) (h1 : -9223372036854775 ≤ d) (h2 : d ≤ 9223372036854775) :
    ∃ (q : Int) (b : Bool), (∀ w, Calls Try.prog 11 #[.int .i64 l] w fun e w' => e = .returned (.int .i64 q) ∧ Grown w w') ∧ decide (d ≤ q) = b ∧
      (∀ w, Calls Try.prog 13 #[.int .i64 l, .int .i64 d] w fun e w' => e = .returned (.bool b) ∧ w' = w) ∧ (l ≤ 0 → q = 9223372036854775807) ∧ (0 < l → q = l / 1000) := by
  by_cases c : l ≤ 0
  · exact ⟨_, true, kept_neg l c, by simp; omega, admits_yes l d (.inl c) h1 h2, fun _ => rfl, fun h => absurd c (by omega)⟩
  · by_cases g : d * 1000 ≤ l
    · exact ⟨_, true, kept_pos l (by omega) hl, by simp; omega, admits_yes l d (.inr g) h1 h2, fun h => absurd h c, fun _ => rfl⟩
    · exact ⟨_, false, kept_pos l (by omega) hl, by simp; omega, admits_no l d (by omega) (by omega) h1 h2, fun h => absurd h c, fun _ => rfl⟩
theorem ordered (l1 k1 l2 k2 : Int) (h1 : l1 ≤ 0 → k2 ≤ k1) (h2 : 0 < l1 → l2 ≤ 0 → k1 ≤ k2) (h3 : 0 < l1 → 0 < l2 → l1 ≤ l2 → k1 ≤ k2) (h4 : 0 < l1 → 0 < l2 → l2 < l1 → k2 ≤ k1) (w : World) :
    Calls Try.prog 12 #[.int .i64 l1, .int .i64 k1, .int .i64 l2, .int .i64 k2] w fun e w' => e = .returned (.bool true) ∧ w' = w := by
  by_cases c1 : l1 ≤ 0
  · have g := h1 c1
    clear h1 h2 h3 h4
    go_enter Try.func12, Try.ntmps12
    go_wp2
    go_ret
    exact ⟨by simp [g], rfl⟩
  · by_cases c2 : l2 ≤ 0
    · have g := h2 (by omega) c2
      clear h1 h2 h3 h4
      go_enter Try.func12, Try.ntmps12
      go_wp2
      go_ret
      exact ⟨by simp [g], rfl⟩
    · by_cases c3 : l1 ≤ l2
      · have g := h3 (by omega) (by omega) c3
        clear h1 h2 h3 h4
        go_enter Try.func12, Try.ntmps12
        go_wp2
        go_ret
        exact ⟨by simp [g], rfl⟩
      · have g := h4 (by omega) (by omega) (by omega)
        clear h1 h2 h3 h4
        go_enter Try.func12, Try.ntmps12
        go_wp2
        go_ret
        exact ⟨by simp [g], rfl⟩
set_option maxRecDepth 100000 in
set_option maxHeartbeats 1000000 in
theorem orders_walk (l1 l2 d : Int) (hl1 : l1 ≤ 9223372036854775807) (hl2 : l2 ≤ 9223372036854775807) (w : World) :
    Calls Try.prog 5 #[.int .i64 l1, .int .i64 l2, .int .i64 d] w (PT w) := by
  by_cases c1 : -9223372036854775 ≤ d ∧ d ≤ 9223372036854775
  case neg =>
    by_cases c2 : -9223372036854775 ≤ d
    all_goals
      go_enter Try.func5, Try.ntmps5
      go_wp2_with fail
      go_ret
      exact ⟨rfl, Grown.refl _⟩
  obtain ⟨d1, d2⟩ := c1
  obtain ⟨q1, b1, K1, e1, A1, n1, p1⟩ := kept_ex l1 d hl1 d1 d2
  obtain ⟨q2, b2, K2, e2, A2, n2, p2⟩ := kept_ex l2 d hl2 d1 d2
  have O := ordered l1 q1 l2 q2 (fun h => by have := n1 h; by_cases c : l2 ≤ 0; (have := n2 c; omega); (have := p2 (by omega); omega)) (fun h g => by have := p1 h; have := n2 g; omega)
    (fun h g c => by have := p1 h; have := p2 g; omega) (fun h g c => by have := p1 h; have := p2 g; omega)
  have HK1 := hide K1
  have HK2 := hide K2
  have HA1 := hide A1
  have HA2 := hide A2
  have HO := hide O
  clear K1 K2 A1 A2 O n1 n2 p1 p2
  go_enter Try.func5, Try.ntmps5
  go_wp2_with fail
  refine (HK1.out _).mono ?_
  rintro e w1 ⟨rfl, g1⟩
  go_wp2_with fail
  refine (HK2.out _).mono ?_
  rintro e w2 ⟨rfl, g2⟩
  go_wp2_with fail
  refine (HO.out _).mono ?_
  rintro e w3 ⟨rfl, hw⟩
  subst w3
  go_wp2_with fail
  refine (HA1.out _).mono ?_
  rintro e w3 ⟨rfl, hw⟩
  subst w3
  go_wp2_with fail
  refine (HA2.out _).mono ?_
  rintro e w3 ⟨rfl, hw⟩
  subst w3
  go_wp2_with fail
  go_ret
  exact ⟨rfl, grown_trans g1 g2⟩
end Go.Proofs.Qxb6615210a.Kept
