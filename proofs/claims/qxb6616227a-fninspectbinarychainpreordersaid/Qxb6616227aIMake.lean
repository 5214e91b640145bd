import Derived.Test.Qxb6616227aIInsp
namespace Go.Proofs.Qxb6616227a.Ins
open Go.RowKit
set_option linter.unusedVariables false
set_option linter.unusedSimpArgs false

theorem At.below {w w' : World} {b : Nat} {p : Po} (h : At w b p) (hb : Below w.heap.size w w') : At w' b p := ⟨seen hb (cell_lt h.1) h.1, seen hb (cell_lt h.2) h.2⟩
theorem At.lt {w : World} {b : Nat} {p : Po} (h : At w b p) : b < w.heap.size := cell_lt h.1
/-- A link's node in block b: its left operand is the value x. -/
structure Node (w : World) (b : Nat) (l : Lk) (x : Value) (y : Nat) : Prop where
  hp : At w b l.o
  hx : w.cell? ⟨b, 3, none⟩ = some x
  hy : w.cell? ⟨b, 4, none⟩ = some (.iface 37 (.pointer (some ⟨y, 0, none⟩)))
  ha : At w y l.y
theorem Node.below {w w' : World} {b : Nat} {l : Lk} {x : Value} {y : Nat} (h : Node w b l x y) (hb : Below w.heap.size w w') : Node w' b l x y :=
  ⟨h.hp.below hb, seen hb (cell_lt h.hx) h.hx, seen hb (cell_lt h.hy) h.hy, h.ha.below hb⟩
/-- The nodes of the first n links: N j is link j's block, Y j its right operand's; the leaf lies in block L. -/
def left (L : Nat) (N : Nat → Nat) : Nat → Value
  | 0 => .iface 37 (.pointer (some ⟨L, 0, none⟩))
  | n + 1 => .iface 28 (.pointer (some ⟨N n, 0, none⟩))
structure Chain (w : World) (leaf : Po) (ks : List Lk) (L : Nat) (N Y : Nat → Nat) (n : Nat) : Prop where
  leaf : At w L leaf
  node : ∀ j, j < n → Node w (N j) (ks.getD j lk0) (left L N j) (Y j)
theorem Chain.below {w w' : World} {leaf : Po} {ks : List Lk} {L : Nat} {N Y : Nat → Nat} {n : Nat} (h : Chain w leaf ks L N Y n) (hb : Below w.heap.size w w') : Chain w' leaf ks L N Y n :=
  ⟨h.leaf.below hb, fun j hj => (h.node j hj).below hb⟩

def MakeTo (w : World) (leaf op y : Po) (e : Ending) (w' : World) : Prop :=
  ∃ L b yb, e = .returned (.pointer (some ⟨b, 0, none⟩)) ∧ Below w.heap.size w w' ∧ At w' L leaf ∧ Node w' b ⟨op, y⟩ (.iface 37 (.pointer (some ⟨L, 0, none⟩))) yb
def NestTo (w : World) (op y : Po) (b0 : Nat) (e : Ending) (w' : World) : Prop :=
  ∃ b yb, e = .returned (.pointer (some ⟨b, 0, none⟩)) ∧ Below w.heap.size w w' ∧ Node w' b ⟨op, y⟩ (.iface 28 (.pointer (some ⟨b0, 0, none⟩))) yb
theorem at_row {w : World} {b : Nat} {p : Po} {cs : List Value} {t : TypeId} (h : w.heap[b]? = some (.cells (.int .i64 p.1 :: .int .i64 p.2 :: cs).toArray t (0, 0))) : At w b p :=
  ⟨by rw [cell_of_row _ _ _ _ _ _ h]; rfl, by rw [cell_of_row _ _ _ _ _ _ h]; rfl⟩
theorem al_heap {W : World} {b : Nat} {o v : Obj} (h : W.heap[b]? = some v) : (W.alloc o).heap[b]? = some v := by rw [Below.heap_alloc _ _ _ (obj_lt h)]; exact h

set_option maxHeartbeats 1000000 in
theorem make_any (op leaf y : Po) (w : World) : Calls Try.prog 6 #[.agg #[.int .i64 op.1, .int .i64 op.2], .agg #[.int .i64 leaf.1, .int .i64 leaf.2], .agg #[.int .i64 y.1, .int .i64 y.2]] w (MakeTo w leaf op y) := by
  go_enter Try.func6, Try.ntmps6
  go_wp2_with fail
  go_ret
  obtain ⟨A, hA⟩ : ∃ A, ((w.alloc (.cells #[.int .i64 op.1, .int .i64 op.2] 25)).alloc (.cells #[.int .i64 leaf.1, .int .i64 leaf.2] 25)).alloc (.cells #[.int .i64 y.1, .int .i64 y.2] 25) = A := ⟨_, rfl⟩
  have hs : A.heap.size = w.heap.size + 1 + 1 + 1 := by rw [← hA]; simp
  have hb : Below w.heap.size w A := by rw [← hA]; exact (((Below.refl _ _).alloc (Nat.le_refl _) _).alloc (by simp) _).alloc (by simp; omega) _
  rw [hA, ← hs]
  have h1 := heap_alloc_new A (.cells #[.int .i64 leaf.1, .int .i64 leaf.2, .string { data := #[] }] 39)
  have h2 := new2 A (.cells #[.int .i64 leaf.1, .int .i64 leaf.2, .string { data := #[] }] 39) (.cells #[.int .i64 y.1, .int .i64 y.2, .string { data := #[] }] 39)
  have h3 := new2 (A.alloc (.cells #[.int .i64 leaf.1, .int .i64 leaf.2, .string { data := #[] }] 39)) (.cells #[.int .i64 y.1, .int .i64 y.2, .string { data := #[] }] 39)
      (.cells #[.int .i64 op.1, .int .i64 op.2, .int .u8 0, .iface 37 (.pointer (some ⟨A.heap.size, 0, none⟩)), .iface 37 (.pointer (some ⟨A.heap.size + 1, 0, none⟩))] 44)
  rw [World.size_alloc] at h3
  refine ⟨A.heap.size, A.heap.size + 1 + 1, A.heap.size + 1, rfl, ?_, at_row (al_heap (al_heap h1)), ⟨at_row h3, ?_, ?_, at_row (al_heap h2)⟩⟩
  · exact ((hb.alloc (by omega) _).alloc (by simp; omega) _).alloc (by simp; omega) _
  · rw [cell_of_row _ _ _ _ _ _ h3]; rfl
  · rw [cell_of_row _ _ _ _ _ _ h3]; rfl
set_option maxHeartbeats 1000000 in
theorem nest_any (op y : Po) (b : Nat) (w : World) : Calls Try.prog 7 #[.agg #[.int .i64 op.1, .int .i64 op.2], .pointer (some ⟨b, 0, none⟩), .agg #[.int .i64 y.1, .int .i64 y.2]] w (NestTo w op y b) := by
  go_enter Try.func7, Try.ntmps7
  go_wp2_with fail
  go_ret
  obtain ⟨A, hA⟩ : ∃ A, (w.alloc (.cells #[.int .i64 op.1, .int .i64 op.2] 25)).alloc (.cells #[.int .i64 y.1, .int .i64 y.2] 25) = A := ⟨_, rfl⟩
  have hs : A.heap.size = w.heap.size + 1 + 1 := by rw [← hA]; simp
  have hb : Below w.heap.size w A := by rw [← hA]; exact ((Below.refl _ _).alloc (Nat.le_refl _) _).alloc (by simp) _
  rw [hA, ← hs]
  have h1 := heap_alloc_new A (.cells #[.int .i64 y.1, .int .i64 y.2, .string { data := #[] }] 39)
  have h3 := new2 A (.cells #[.int .i64 y.1, .int .i64 y.2, .string { data := #[] }] 39) (.cells #[.int .i64 op.1, .int .i64 op.2, .int .u8 0, .iface 28 (.pointer (some ⟨b, 0, none⟩)), .iface 37 (.pointer (some ⟨A.heap.size, 0, none⟩))] 44)
  refine ⟨A.heap.size + 1, A.heap.size, rfl, (hb.alloc (by omega) _).alloc (by simp; omega) _, ⟨at_row h3, ?_, ?_, at_row (al_heap h1)⟩⟩
  · rw [cell_of_row _ _ _ _ _ _ h3]; rfl
  · rw [cell_of_row _ _ _ _ _ _ h3]; rfl

/-! The plain law: what the walk down and up writes down. -/
/-- Down from node n - 1 (its position written down, not skipped): how many inner nodes are taken on, and what is written down on the way. -/
def down (leaf : Po) (ks : List Lk) (skip : Int) : Nat → List Po
  | 0 => [leaf]
  | n + 1 => (ks.getD n lk0).o :: if (ks.getD n lk0).o.1 = skip then [] else down leaf ks skip n
/-- The lowest node that is taken on, from n down. -/
def stop (ks : List Lk) (skip : Int) : Nat → Nat
  | 0 => 0
  | n + 1 => if (ks.getD n lk0).o.1 = skip then n + 1 else stop ks skip n
theorem stop_le (ks : List Lk) (skip : Int) (n : Nat) : stop ks skip n ≤ n := by
  induction n with
  | zero => exact Nat.le_refl _
  | succ n ih => unfold stop; split <;> omega
/-- The right names from node a up to node b - 1. -/
def ups (ks : List Lk) (a b : Nat) : List Po := ((List.range b).drop a).map fun j => (ks.getD j lk0).y
theorem ups_succ (ks : List Lk) {a b : Nat} (h : a ≤ b) : ups ks a (b + 1) = ups ks a b ++ [(ks.getD b lk0).y] := by
  unfold ups
  rw [List.range_succ, List.drop_append_of_le_length (by simpa using h), List.map_append]; rfl
theorem ups_self (ks : List Lk) (a : Nat) : ups ks a a = [] := by simp [ups]
/-- The model is the way down and the way up. -/
theorem model_eq (leaf : Po) (ks : List Lk) (skip : Int) (n : Nat) : model leaf ks skip n = down leaf ks skip n ++ ups ks (stop ks skip n) n := by
  induction n with
  | zero => simp [model, down, stop, ups]
  | succ n ih =>
    unfold model down stop
    split
    · rw [ups_self]; simp
    · rw [ih, ups_succ ks (stop_le ks skip n)]; simp
end Go.Proofs.Qxb6616227a.Ins
