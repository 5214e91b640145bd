import Derived.Test.Qxb6616202aRows
import Derived.Test.Qxb6616202aKit
import Derived.Deep.QuietTactic
import Derived.BigQuiet
namespace Go.Proofs.Qxb6616202a.Flow
open Go.RowKit Go.Proofs.Qxb6616202a.Kit
set_option linter.unusedVariables false
set_option linter.unusedSimpArgs false

theorem bytes4 (n p t h : Int) (a1 a2 : Option Addr) (l1 c1 l2 c2 : Nat) (w : World) (h1 : l1 ≤ maxLen) (h2 : l2 ≤ maxLen) :
    Calls Try.prog 11 #[.int .i64 n, .slice a1 l1 c1, .slice a2 l2 c2, .int .i64 p, .int .i32 t, .int .i32 h] w fun e w' => (∃ b, e = .returned (.bool b)) ∧ w' = w := by
  unfold maxLen at h1 h2
  go_enter Try.func11, Try.ntmps11
  go_wp2
  all_goals (go_ret; exact ⟨⟨_, rfl⟩, rfl⟩)

def inR (n x : Int) : Prop := 0 ≤ x ∧ x < n

def PEdges (n : Int) (xs ys : List Int) (w : World) (e : Ending) (w' : World) : Prop :=
  (∃ b, e = .returned (.bool b) ∧ (b = true → ∀ j, j < xs.length → inR n (xs.getD j 0) ∧ inR n (ys.getD j 0))) ∧ w' = w
theorem PEdges.no {n : Int} {xs ys : List Int} {w : World} : PEdges n xs ys w (.returned (.bool false)) w := ⟨⟨false, rfl, fun h => by cases h⟩, rfl⟩

theorem edges_any (n : Int) (a1 a2 : Option Addr) (c1 c2 : Nat) (xs ys : List Int) (w : World) (hl : ys.length = xs.length) (hm : xs.length ≤ 65536)
    (h1 : Rd .i32 w a1 xs) (h2 : Rd .i32 w a2 ys) (b1 : ∀ x ∈ xs, -2147483648 ≤ x ∧ x ≤ 2147483647) (b2 : ∀ x ∈ ys, -2147483648 ≤ x ∧ x ≤ 2147483647) :
    Calls Try.prog 12 #[.int .i64 n, .slice a1 xs.length c1, .slice a2 ys.length c2] w (PEdges n xs ys w) := by
  have HL : Hid (ys.length = xs.length) := hl
  rw [hl]
  clear hl
  go_enter Try.func12, Try.ntmps12
  go_wp2
  go_loop [10] (fun i => ∃ k : Nat, k ≤ xs.length ∧ i = .int .i64 k ∧ ∀ j, j < k → inR n (xs.getD j 0) ∧ inR n (ys.getD j 0)) (fun i => xs.length - (intOf i).toNat)
  case atStart => exact ⟨0, Nat.zero_le _, rfl, fun j hj => by omega⟩
  case round =>
    obtain ⟨k, hk, rfl, hall⟩ := hrel
    have HA : Hid (∀ j, j < k → inR n (xs.getD j 0) ∧ inR n (ys.getD j 0)) := hall
    clear hall
    by_cases hlt : k < xs.length
    · obtain ⟨bx, ox, rfl, hx⟩ := h1 k hlt
      obtain ⟨by_, oy, rfl, hy⟩ := h2 k (by rw [HL.out]; exact hlt)
      obtain ⟨x, hxe, bx1, bx2⟩ : ∃ x, xs.getD k 0 = x ∧ -2147483648 ≤ x ∧ x ≤ 2147483647 := ⟨_, rfl, b1 _ (getD_mem xs k hlt)⟩
      obtain ⟨y, hye, by1, by2⟩ : ∃ y, ys.getD k 0 = y ∧ -2147483648 ≤ y ∧ y ≤ 2147483647 := ⟨_, rfl, b2 _ (getD_mem ys k (by rw [HL.out]; exact hlt))⟩
      rw [hxe] at hx
      rw [hye] at hy
      have HX := hide hxe
      have HY := hide hye
      clear hxe hye b1 b2 h1 h2
      go_wp2
      case roundEnd =>
        go_round
        case rel =>
          refine ⟨k + 1, by omega, by go_num, fun j hj => ?_⟩
          by_cases hjk : j < k
          · exact HA.out j hjk
          · have e : j = k := by omega
            rw [e, unhide HX, unhide HY]
            exact ⟨⟨by omega, by omega⟩, ⟨by omega, by omega⟩⟩
        case measure => simp [intOf]; omega
      all_goals (go_ret; exact PEdges.no)
    · clear b1 b2 h1 h2
      go_wp2
      go_ret
      exact ⟨⟨true, rfl, fun _ j hj => HA.out j (by omega)⟩, rfl⟩

end Go.Proofs.Qxb6616202a.Flow
