import Derived.Test.Qxb6616202aRows
import Derived.Test.Qxb6616202aKit
import Derived.Deep.QuietTactic
import Derived.BigQuiet
import Derived.WalkSmall
namespace Go.Proofs.Qxb6616202a.Flow
open Go.RowKit Go.Proofs.Qxb6616202a.Kit
set_option linter.unusedVariables false
set_option linter.unusedSimpArgs false

theorem same_any (b1 b2 c1 c2 n : Nat) (xs : List Int) (w : World) (o1 : Own .i32 w b1 xs) (o2 : Own .i32 w b2 xs) (hn : xs.length = n) (hm : n ≤ 65537) :
    Calls Try.prog 16 #[.slice (some ⟨b1, 0, none⟩) n c1, .slice (some ⟨b2, 0, none⟩) n c2] w fun e w' => e = .returned (.bool true) ∧ ∃ q, w' = w.drewN q := by
  have HN := hide hn
  clear hn
  go_enter Try.func16, Try.ntmps16
  go_wp2_with fail
  go_loopw [13] (fun i wr => ∃ j : Nat, j ≤ n ∧ i = .int .i64 j ∧ ∃ q, wr = w.drewN q) (fun i _ => n - (intOf i).toNat)
  case atStart => exact ⟨0, Nat.zero_le _, rfl, 0, rfl⟩
  case round =>
    obtain ⟨j, hj, rfl, q, rfl⟩ := hrel
    by_cases hjl : j < n
    · have h1 := o1.cell j (by rw [HN.out]; exact hjl)
      have h2 := o2.cell j (by rw [HN.out]; exact hjl)
      have i1 : (j : Int) < (n : Int) := by omega
      generalize xs.getD j 0 = g at *
      go_wp2
      go_quiet (fail)
      go_wp2
      go_roundw
      case rel => exact ⟨j + 1, by omega, by go_num, _, rfl⟩
      case measure => simp [intOf]; omega
    · go_wp2
      go_ret
      exact ⟨rfl, _, rfl⟩
end Go.Proofs.Qxb6616202a.Flow
