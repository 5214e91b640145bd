import Derived.Test.Qxb6616227aIKit
import Derived.Deep.DeepCutAuto
import Derived.Deep.CutRange
namespace Go.Proofs.Qxb6616227a.Ins
open Go.RowKit
set_option linter.unusedVariables false
set_option linter.unusedSimpArgs false

def TrueTo (w : World) (e : Ending) (w' : World) : Prop := e = .returned (.bool true) ∧ Below w.heap.size w w'
set_option maxHeartbeats 2000000 in
theorem same_any (ps : List Po) (a1 a2 : Option Addr) (c1 c2 : Nat) (w : World) (h1 : RdP w a1 ps) (h2 : RdP w a2 ps) (hl : ps.length ≤ 1000000) :
    Calls Try.prog 10 #[.slice a1 ps.length c1, .slice a2 ps.length c2] w (TrueTo w) := by
  have H1 := hide h1
  have H2 := hide h2
  clear h1 h2
  go_enter Try.func10, Try.ntmps10
  go_wp2_with fail
  go_loopw [5] (fun i wx => ∃ k : Nat, k ≤ ps.length ∧ i = .int .i64 k ∧ Below w.heap.size w wx) (fun i _ => ps.length - (intOf i).toNat)
  case atStart => exact ⟨0, Nat.zero_le _, rfl, Below.refl _ _⟩
  case round =>
    obtain ⟨k, hk, rfl, hb⟩ := hrel
    by_cases hlt : k < ps.length
    · obtain ⟨b1, o1, rfl, p1, q1⟩ := (H1.out.below hb) k hlt
      obtain ⟨b2, o2, rfl, p2, q2⟩ := (H2.out.below hb) k hlt
      obtain ⟨x, hx⟩ : ∃ x, (ps.getD k (0, 0)).1 = x := ⟨_, rfl⟩
      obtain ⟨y, hy⟩ : ∃ x, (ps.getD k (0, 0)).2 = x := ⟨_, rfl⟩
      rw [hx] at p1 p2
      rw [hy] at q1 q2
      have HB := hide hb
      have g1 : (x != x) = false := by simp
      have g2 : (y != y) = false := by simp
      clear hx hy hb
      go_upto_region 6 with fail
      go_quiet (fail)
      go_wp2_with fail
      go_roundw
      case rel => exact ⟨k + 1, by omega, by go_num, below_drewN HB.out _⟩
      case measure => simp [intOf]; omega
    · obtain rfl : k = ps.length := by omega
      have HB := hide hb
      clear hb
      go_wp2_with fail
      go_ret
      exact ⟨rfl, HB.out⟩
end Go.Proofs.Qxb6616227a.Ins
