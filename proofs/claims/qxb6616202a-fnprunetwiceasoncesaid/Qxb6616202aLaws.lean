import Derived.Test.Qxb6616202aAdj
import Derived.Laws.CopyOwn
import Derived.Laws.AppendOwnNone
namespace Go.Proofs.Qxb6616202a.Flow
open Go.RowKit Go.Proofs.Qxb6616202a.Kit
set_option linter.unusedVariables false
set_option linter.unusedSimpArgs false

/-- 'zzc := make([]int32, len(x)); copy(zzc, x)', the copy. -/
theorem copy_step {w0 w : World} {ops : Array Oper} {rest : List Oper} {o : Oper} {a : Act} {Q : Exit → Act → World → Prop} (hgd : o.guard = none) (d s : Operand)
    (ho : o.op = .call { callee := .builtin .copy, args := #[d, s], argTypes := #[31, 31] }) (xs : List Int) (m : Nat) (hm : xs.length = m) (aS : Option Addr) (cS g : Nat)
    (hd : a.eval d = .slice (some ⟨g, 0, none⟩) m m) (hs : a.eval s = .slice aS m cS)
    (hg : w.heap[g]? = some (.cells (zrow m) 21 (0, 0))) (hr : Rd .i32 w aS xs) (B : Nat) (hb : Below B w0 w) (hBg : B ≤ g)
    (h : ∀ w', Blk .i32 21 w' g xs → Below B w0 w' → wpList Try.prog ops Q rest (a.put o.dst (goInt m)) w') : wpList Try.prog ops Q (o :: rest) a w := by
  subst hm
  have hcl : (xs.map (Value.int .i32)).length = xs.length := by simp
  refine wpList_copy_splice hgd d s 31 31 ho 21 Try.underlying31 (by kernel_rfl) (some ⟨g, 0, none⟩) aS xs.length xs.length xs.length cS hd hs g 0 ((List.replicate xs.length (0 : Int)).map (Value.int .i32)) 21 hg (xs.map (Value.int .i32)) (by simp)
    (fun hp => ⟨rfl, ?_⟩) (by simp) (ints_one _ _) B w0 hb hBg ?_
  · cases aS with
    | none => have := Rd.none_nil hr; subst this; simp at hp
    | some ad => exact ⟨ad, rfl, hr.news⟩
  · intro w' hh hb'
    rw [hcl]
    refine h w' ?_ hb'
    have e : splice ((List.replicate xs.length (0 : Int)).map (Value.int .i32)) 0 (xs.map (Value.int .i32)) = xs.map (Value.int .i32) := by
      simp [splice]
    have := hh.out
    rw [e] at this
    exact this

/-- A slice that came in, or its copy. -/
def CutSt (w wx : World) (xs : List Int) (m : Nat) (v : Value) : Prop :=
  ∃ a c, v = .slice a m c ∧ Rd .i32 wx a xs ∧ (a = none → c = 0) ∧ m ≤ c ∧ Below w.heap.size w wx

/-- 'x = append(x, s...)', x of the call's own, s whatever is read. -/
theorem append_rd {w0 w : World} {ops : Array Oper} {rest : List Oper} {o : Oper} {a : Act} {Q : Exit → Act → World → Prop} (hgd : o.guard = none) (s x : Operand)
    (ho : o.op = .call { callee := .builtin .append, args := #[s, x], argTypes := #[31, 31] }) (base : Nat) (v : Value) (n : Nat) (ws : List Int) (hs : a.eval s = v)
    (hown : w.ownsRow base 21 1 v n (ws.map (Value.int .i32))) (aS : Option Addr) (m c : Nat) (news : List Int) (hx : a.eval x = .slice aS m c) (hl : news.length = m) (hr : Rd .i32 w aS news) (hn0 : aS = none → c = 0)
    (hnm : n + m ≤ 1000000) (hb : Below base w0 w) (hB : base ≤ w.heap.size)
    (h : ∀ v' w', w'.ownsRow base 21 1 v' (n + m) ((ws ++ news).map (Value.int .i32)) → Below base w0 w' → base ≤ w'.heap.size → wpList Try.prog ops Q rest (a.put o.dst v') w') : wpList Try.prog ops Q (o :: rest) a w := by
  obtain ⟨i0, hi, hz0, hz1, hz2⟩ := info_parts Try.info21
  cases aS with
  | none =>
    have := Rd.none_nil hr
    subst this
    obtain rfl : m = 0 := by simpa using hl.symm
    obtain rfl := hn0 rfl
    refine wpList_append_own_none hgd s x 31 ho base 21 i0 1 Try.underlying31 hi v n _ hs hown hx ?_
    exact h v w (by simpa using hown) hb hB
  | some ad =>
    refine wpList_append_own w hgd s x 31 ho base 21 i0 (.int .i32 0) 1 4 Try.underlying31 hi hz0 hz1 hz2 rfl (by decide) v n _ hs hown ad m c (news.map (Value.int .i32)) hx (by simp [hl]) hr.news (ints_one _ _) (by unfold maxLen; omega) (by omega) hB ?_
    intro v' w' ho' hg _
    refine h v' w' (by simpa using ho') (hb.grown hg hB fun k hk => (hown.lt k hk).1) (Nat.le_trans hB hg.size)

theorem rd_one (w : World) (x : Int) : Rd .i32 (w.alloc (.cells #[.int .i32 x] 21)) (some ⟨w.heap.size, 0, none⟩) [x] := by
  intro j hj
  obtain rfl : j = 0 := by simp at hj; omega
  refine ⟨_, _, rfl, ?_⟩
  rw [cell_of_row _ _ _ _ 21 _ (heap_alloc_new w _)]; rfl
theorem made_own (w : World) (c : Nat) (hc : c ≤ 1000000) : (w.alloc (.cells (zrow c) 21)).ownsRow w.heap.size 21 1 (.slice (some ⟨w.heap.size, 0, none⟩) 0 c) 0 (([] : List Int).map (Value.int .i32)) :=
  World.ownsRow_made w _ c (Nat.le_refl _) (by unfold maxLen; omega) (by simp [zrow, irow_size])
theorem make32_0 (c : Nat) (hc : c ≤ 1000000) (w : World) :
    (Instr.makeSlice 31 (.int .i64 0) (.int .i64 (c : Int))).run Try.prog w = .ok (.slice (some ⟨w.heap.size, 0, none⟩) 0 c) (w.alloc (.cells (zrow c) 21)) := by
  obtain ⟨i0, hi, hz0, hz1, hz2⟩ := info_parts Try.info21
  have h := run_make (P := Try.prog) w 31 21 i0 (.int .i32 0) Try.underlying31 hi hz0 .i64 .i64 0 c (by omega) (by omega) (by rw [hz2]; omega) (by omega)
  rw [hz1, Nat.mul_one, Int.toNat_natCast, made_zero] at h
  exact h

/-- The two cuts 'x[:p]', 'x[p:]' of a slice that may be nil. -/
theorem cut_lo (a : Option Addr) (m c p : Nat) (hp : p ≤ m) (hc : m ≤ c) (w : World) :
    (Instr.slice 31 (.slice a m c) none (some (.int .i64 (p : Int))) none).run Try.prog w = .ok (.slice a p c) w := by
  have h1 : (p : Int) ≤ (c : Int) := by omega
  simp [Instr.slice, run_underlying Try.underlying31, Instr.sliceBounds, run_sliceBound, h1, Result.andThen]
  intro _
  cases a with
  | none => rfl
  | some x => simp [Addr.add]
theorem cut_hi (a : Option Addr) (m c p : Nat) (hp : p ≤ m) (hc : m ≤ c) (w : World) :
    (Instr.slice 31 (.slice a m c) (some (.int .i64 (p : Int))) none none).run Try.prog w = .ok (.slice (if c = p then a else a.map (·.add p)) (m - p) (c - p)) w := by
  have h1 : (p : Int) ≤ (m : Int) := by omega
  simp [Instr.slice, run_underlying Try.underlying31, Instr.sliceBounds, run_sliceBound, h1, Result.andThen]
theorem cut_hi_ex (a : Option Addr) (m c p : Nat) (xs : List Int) (hx : xs.length = m) (hp : p ≤ m) (hc : m ≤ c) (hz : a = none → c = 0) :
    ∃ a2 c2, (∀ w, (Instr.slice 31 (.slice a m c) (some (.int .i64 (p : Int))) none none).run Try.prog w = .ok (.slice a2 (m - p) c2) w) ∧ (∀ w, Rd .i32 w a xs → Rd .i32 w a2 (xs.drop p)) ∧ (a2 = none → c2 = 0) := by
  refine ⟨_, _, fun w => cut_hi a m c p hp hc w, fun w h => h.drop p c (by omega), fun h => ?_⟩
  by_cases e : c = p
  · omega
  · rw [if_neg e] at h
    cases a with
    | none => have := hz rfl; omega
    | some x => cases h
end Go.Proofs.Qxb6616202a.Flow
