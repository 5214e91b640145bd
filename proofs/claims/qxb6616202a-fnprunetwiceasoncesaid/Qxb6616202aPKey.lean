import Derived.Test.Qxb6616202aRows
import Derived.Test.Qxb6616202aKit
import Derived.WalkSmall
namespace Go.Proofs.Qxb6616202a.Prune
open Go.RowKit Go.Proofs.Qxb6616202a.Kit
set_option linter.unusedVariables false
set_option linter.unusedSimpArgs false

def u32 (x : Int) : Int := x % 4294967296
/-- The key of a lock's streaks. -/
def sk (id lock : Int) : Int := u32 id * 4294967296 + u32 lock

theorem key_any (id lock : Int) (w : World) (h1 : -2147483648 ≤ id) (h2 : id ≤ 2147483647) (h3 : -2147483648 ≤ lock) (h4 : lock ≤ 2147483647) :
    Calls Try.prog 30 #[.int .i32 id, .int .i32 lock] w fun e w' => e = .returned (.int .u64 (sk id lock)) ∧ w' = w := by
  go_enter Try.func30, Try.ntmps30
  go_wp2
  go_ret
  refine ⟨?_, rfl⟩
  have e : bits BinOp.or IntKind.u64 (id % 4294967296 * 4294967296) (lock % 4294967296) = sk id lock := by
    rw [u64_or _ _ (by omega) (by omega) (by omega) (by omega)]
    unfold sk u32
    obtain ⟨a, ha⟩ : ∃ a : Nat, id % 4294967296 = a := ⟨(id % 4294967296).toNat, by omega⟩
    obtain ⟨b, hb⟩ : ∃ b : Nat, lock % 4294967296 = b := ⟨(lock % 4294967296).toNat, by omega⟩
    rw [ha, hb]
    have h := Nat.two_pow_add_eq_or_of_lt (i := 32) (b := b) (by omega) a
    have e1 : ((a : Int) * 4294967296).toNat = 2 ^ 32 * a := by omega
    rw [e1, Int.toNat_natCast, ← h]
    omega
  exact congrArg (fun x => Ending.returned (.int .u64 x)) e
theorem sk_inj (id a b : Int) (h3 : -2147483648 ≤ a) (h4 : a ≤ 2147483647) (h5 : -2147483648 ≤ b) (h6 : b ≤ 2147483647) (h : sk id a = sk id b) : a = b := by
  unfold sk u32 at h
  omega
theorem zkey_any (id lock : Int) (w : World) (h1 : -2147483648 ≤ id) (h2 : id ≤ 2147483647) (h3 : -2147483648 ≤ lock) (h4 : lock ≤ 2147483647) :
    Calls Try.prog 25 #[.int .i32 id, .int .i32 lock] w fun e w' => e = .returned (.int .u64 (sk id lock)) ∧ w' = w := by
  go_enter Try.func25, Try.ntmps25
  go_wp2_with fail
  refine (key_any id lock _ h1 h2 h3 h4).mono ?_
  rintro e w' ⟨rfl, hw⟩
  subst w'
  go_wp2
  go_ret
  exact ⟨rfl, rfl⟩
/-- -1, 0 or 1 as x is less than, equal to or greater than y. -/
def sgn (x y : Int) : Int := if x < y then -1 else if y < x then 1 else 0
theorem sgn_neg (x y : Int) (h : x < y) : sgn x y = -1 := by unfold sgn; rw [if_pos h]
theorem sgn_nn (x y : Int) (h : ¬ x < y) : 0 ≤ sgn x y := by unfold sgn; rw [if_neg h]; split <;> omega

theorem cmp_int (x y : Int) (w : World) : Calls Try.prog 39 #[.int .i64 x, .int .i64 y] w fun e w' => e = .returned (.int .i64 (sgn x y)) ∧ w' = w := by
  unfold sgn
  by_cases c1 : x < y
  · rw [if_pos c1]
    go_enter Try.func39, Try.ntmps39
    go_wp2
    go_ret
    exact ⟨rfl, rfl⟩
  · rw [if_neg c1]
    by_cases c2 : y < x
    · rw [if_pos c2]
      go_enter Try.func39, Try.ntmps39
      go_wp2
      go_ret
      exact ⟨rfl, rfl⟩
    · rw [if_neg c2]
      go_enter Try.func39, Try.ntmps39
      go_wp2
      go_ret
      exact ⟨rfl, rfl⟩

/-- An item of a list, as it lies in memory. -/
def item (ln st : Int) : Value := .agg #[.int .i64 ln, .bool false, .int .i32 st, .slice none 0 0, .bool true, .int .i32 0, .int .i32 0, .int .i32 0, .int .i32 0, .int .i32 0, .int .i32 0, .int .i32 0, .int .i32 0, .bool false]

theorem clo_any (ln st x : Int) (w : World) : Calls Try.prog 38 #[.agg #[.int .i64 ln, .bool false, .int .i32 st, .slice none 0 0, .bool true, .int .i32 0, .int .i32 0, .int .i32 0, .int .i32 0, .int .i32 0, .int .i32 0, .int .i32 0, .int .i32 0, .bool false], .int .i64 x] w
    fun e w' => e = .returned (.int .i64 (sgn ln x)) ∧ Below w.heap.size w w' := by
  go_enter Try.func38, Try.ntmps38
  go_wp2_with fail
  refine (cmp_int ln x _).mono ?_
  rintro e w' ⟨rfl, hw⟩
  subst w'
  go_wp2_with fail
  go_ret
  exact ⟨rfl, (Below.refl _ _).alloc (Nat.le_refl _) _⟩
end Go.Proofs.Qxb6616202a.Prune
