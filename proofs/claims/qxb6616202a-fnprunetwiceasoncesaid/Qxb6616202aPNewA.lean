import Derived.Test.Qxb6616202aPWalk
import Derived.Deep.RegionHeldLaw
import Derived.Carry
namespace Go.Proofs.Qxb6616202a.Prune
open Go.RowKit Go.Proofs.Qxb6616202a.Kit Go.Proofs.Qxb6616202a.Flow
set_option linter.unusedVariables false
set_option linter.unusedSimpArgs false

/-- The first n cells of block b hold what f says, and may be written. -/
def Vals (w : World) (b n : Nat) (f : Nat → Value) : Prop := ∀ p, p < n → w.cell? ⟨b, p, none⟩ = some (f p) ∧ w.frozen? ⟨b, p, none⟩ = false
section
variable {w w' : World} {b n : Nat} {f g : Nat → Value}
theorem Vals.same (h : Vals w b n f) (hb : w'.heap[b]? = w.heap[b]?) : Vals w' b n f := fun p hp =>
  ⟨(World.cell?_of_block (w := w) (w' := w') (a := ⟨b, p, none⟩) hb).trans (h p hp).1, (World.frozen?_of_block (w := w) (w' := w') (a := ⟨b, p, none⟩) hb).trans (h p hp).2⟩
theorem Vals.below {B : Nat} (h : Vals w b n f) (hb : Below B w w') (hB : b < B) : Vals w' b n f := h.same (hb.block b hB)
theorem Vals.congr (h : Vals w b n f) (e : ∀ p, p < n → f p = g p) : Vals w b n g := fun p hp => ⟨by rw [← e p hp]; exact (h p hp).1, (h p hp).2⟩
theorem Vals.set (h : Vals w b n f) (i : Nat) (v : Value) : Vals (w.setCell ⟨b, i, none⟩ v) b n (fun p => if p = i then v else f p) := fun p hp =>
  ⟨cell_set w b i p v _ (h p hp).1, by rw [froz_set]; exact (h p hp).2⟩
theorem Vals.made {c : Array Value} {t : TypeId} (h : w.heap[b]? = some (.cells c t (0, 0))) (hf : ∀ p, p < n → c[p]? = some (f p)) : Vals w b n f := fun p hp =>
  ⟨by rw [cell_of_row _ _ _ _ _ _ h]; exact hf p hp, froz_row h⟩
end

theorem info97 : (Try.prog.info? 97).map (fun i => (i.zero.map (·.cells.toList), i.size, i.bytes)) = some (some [.int .i32 0, .int .i32 0, .int .i32 0, .int .i32 0, .int .u64 0], 5, 24) := by kernel_rfl
theorem info113 : (Try.prog.info? 113).map (fun i => (i.zero.map (·.cells.toList), i.size, i.bytes)) = some (some [.int .i64 0, .bool false, .int .i32 0, .slice none 0 0, .bool false, .int .i32 0, .int .i32 0, .int .i32 0, .int .i32 0, .int .i32 0, .int .i32 0, .int .i32 0, .int .i32 0, .bool false], 14, 80) := by kernel_rfl
theorem info_cells {P : Program} {e : TypeId} {z : List Value} {size bytes : Nat} (h : (P.info? e).map (fun i => (i.zero.map (·.cells.toList), i.size, i.bytes)) = some (some z, size, bytes)) :
    ∃ i v, P.info? e = some i ∧ i.zero = some v ∧ v.cells = z.toArray ∧ i.size = size ∧ i.bytes = bytes := by
  obtain ⟨i, hi, hzz⟩ := Option.map_eq_some_iff.1 h
  simp only [Prod.mk.injEq] at hzz
  obtain ⟨v, hv, hc⟩ := Option.map_eq_some_iff.1 hzz.1
  exact ⟨i, v, hi, hv, by rw [← hc], hzz.2.1, hzz.2.2⟩
def nz : List Value := [.int .i32 0, .int .i32 0, .int .i32 0, .int .i32 0, .int .u64 0]
def iz : List Value := [.int .i64 0, .bool false, .int .i32 0, .slice none 0 0, .bool false, .int .i32 0, .int .i32 0, .int .i32 0, .int .i32 0, .int .i32 0, .int .i32 0, .int .i32 0, .int .i32 0, .bool false]
def nmade (k : Nat) : Obj := .cells (madeCells nz.toArray (k * 5)) 97
def imade (k : Nat) : Obj := .cells (madeCells iz.toArray (k * 14)) 113
theorem makeN (k : Nat) (hk : k ≤ 1000000) (w : World) :
    (Instr.makeSlice 89 (.int .i64 (k : Int)) (.int .i64 (k : Int))).run Try.prog w = .ok (.slice (some ⟨w.heap.size, 0, none⟩) k k) (w.alloc (nmade k)) := by
  obtain ⟨i0, z, hi, hz0, hzc, hz1, hz2⟩ := info_cells info97
  have h := run_make (P := Try.prog) w 89 97 i0 z Try.underlying89 hi hz0 .i64 .i64 k k (by omega) (by omega) (by rw [hz2]; omega) (by omega)
  rw [hz1, hzc, Int.toNat_natCast] at h
  exact h
theorem makeI (k : Nat) (hk : k ≤ 1000000) (w : World) :
    (Instr.makeSlice 103 (.int .i64 (k : Int)) (.int .i64 (k : Int))).run Try.prog w = .ok (.slice (some ⟨w.heap.size, 0, none⟩) k k) (w.alloc (imade k)) := by
  obtain ⟨i0, z, hi, hz0, hzc, hz1, hz2⟩ := info_cells info113
  have h := run_make (P := Try.prog) w 103 113 i0 z Try.underlying103 hi hz0 .i64 .i64 k k (by omega) (by omega) (by rw [hz2]; omega) (by omega)
  rw [hz1, hzc, Int.toNat_natCast] at h
  exact h
theorem makeM (k : Nat) (hk : k ≤ 1000000) (w : World) : (Instr.makeMap 98 (some (.int .i64 (k : Int)))).run Try.prog w = .ok (.map (some w.heap.size)) (w.alloc (.map #[] 0)) := by
  simp [Instr.makeMap, asInt, asIntOf]

/-- Node by node. -/
def nodeF (nk nl nr : List Int) (i p : Nat) : Value :=
  if p / 5 < i then (if p % 5 = 0 then .int .i32 (nk.getD (p / 5) 0) else if p % 5 = 1 then .int .i32 (nl.getD (p / 5) 0) else if p % 5 = 2 then .int .i32 (nr.getD (p / 5) 0) else if p % 5 = 3 then .int .i32 0 else .int .u64 0)
  else if p % 5 = 4 then .int .u64 0 else .int .i32 0
theorem node_start (w : World) (k : Nat) (nk nl nr : List Int) (b : Nat) (h : w.heap[b]? = some (nmade k)) : Vals w b (k * 5) (nodeF nk nl nr 0) := by
  refine Vals.made h fun p hp => ?_
  have h5 : p % 5 < 5 := Nat.mod_lt _ (by omega)
  simp only [madeCells, nz, Array.getElem?_map, Array.getElem?_range, hp, if_true, Option.map_some, nodeF, Nat.not_lt_zero, if_false]
  generalize p % 5 = q at *
  have : q = 0 ∨ q = 1 ∨ q = 2 ∨ q = 3 ∨ q = 4 := by omega
  rcases this with rfl | rfl | rfl | rfl | rfl <;> rfl
theorem node_done {w : World} {b : Nat} {nk nl nr : List Int} (h : Vals w b (nk.length * 5) (nodeF nk nl nr nk.length)) : Nodes w b nk nl nr := by
  intro i hi
  have g : ∀ r, r < 5 → w.cell? ⟨b, i * 5 + r, none⟩ = some (nodeF nk nl nr nk.length (i * 5 + r)) := fun r hr => (h (i * 5 + r) (by omega)).1
  have e : ∀ r, r < 5 → (i * 5 + r) / 5 = i ∧ (i * 5 + r) % 5 = r := fun r hr => by omega
  refine ⟨?_, ?_, ?_, ?_, ?_⟩
  · have := g 0 (by omega); rw [nodeF, (e 0 (by omega)).1, (e 0 (by omega)).2, if_pos hi] at this; simpa using this
  · have := g 1 (by omega); rw [nodeF, (e 1 (by omega)).1, (e 1 (by omega)).2, if_pos hi] at this; simpa using this
  · have := g 2 (by omega); rw [nodeF, (e 2 (by omega)).1, (e 2 (by omega)).2, if_pos hi] at this; simpa using this
  · have := g 3 (by omega); rw [nodeF, (e 3 (by omega)).1, (e 3 (by omega)).2, if_pos hi] at this; simpa using this
  · have := g 4 (by omega); rw [nodeF, (e 4 (by omega)).1, (e 4 (by omega)).2, if_pos hi] at this; simpa using this

theorem node_set {w : World} {b k i : Nat} {nk nl nr : List Int} (h : Vals w b (k * 5) (nodeF nk nl nr i)) :
    Vals (((((w.setCell ⟨b, i * 5, none⟩ (.int .i32 (nk.getD i 0))).setCell ⟨b, i * 5 + 1, none⟩ (.int .i32 (nl.getD i 0))).setCell ⟨b, i * 5 + 2, none⟩ (.int .i32 (nr.getD i 0))).setCell ⟨b, i * 5 + 3, none⟩ (.int .i32 0)).setCell ⟨b, i * 5 + 4, none⟩ (.int .u64 0)) b (k * 5) (nodeF nk nl nr (i + 1)) := by
  refine (((((h.set (i * 5) _).set (i * 5 + 1) _).set (i * 5 + 2) _).set (i * 5 + 3) _).set (i * 5 + 4) _).congr fun p hp => ?_
  by_cases c : p / 5 = i
  · have h5 : p % 5 < 5 := Nat.mod_lt _ (by omega)
    have : p % 5 = 0 ∨ p % 5 = 1 ∨ p % 5 = 2 ∨ p % 5 = 3 ∨ p % 5 = 4 := by omega
    rcases this with e | e | e | e | e
    · obtain rfl : p = i * 5 := by omega
      simp [nodeF]
    · obtain rfl : p = i * 5 + 1 := by omega
      simp [nodeF, c, e]
    · obtain rfl : p = i * 5 + 2 := by omega
      simp [nodeF, c, e]
    · obtain rfl : p = i * 5 + 3 := by omega
      simp [nodeF, c, e]
    · obtain rfl : p = i * 5 + 4 := by omega
      simp [nodeF, c, e]
  · have e0 : ¬ p = i * 5 := by omega
    have e1 : ¬ p = i * 5 + 1 := by omega
    have e2 : ¬ p = i * 5 + 2 := by omega
    have e3 : ¬ p = i * 5 + 3 := by omega
    have e4 : ¬ p = i * 5 + 4 := by omega
    have k2 : (p / 5 < i + 1) ↔ (p / 5 < i) := by omega
    simp [e0, e1, e2, e3, e4, nodeF, k2]

/-- Item by item: i items are whole, of item i the first s cells. -/
def itemF (il sl : List Int) (i s p : Nat) : Value :=
  if p % 14 = 0 then .int .i64 (if p / 14 < i ∨ (p / 14 = i ∧ 1 ≤ s) then il.getD (p / 14) 0 else 0)
  else if p % 14 = 1 then .bool false
  else if p % 14 = 2 then .int .i32 (if p / 14 < i ∨ (p / 14 = i ∧ 2 ≤ s) then sl.getD (p / 14) 0 else 0)
  else if p % 14 = 3 then .slice none 0 0
  else if p % 14 = 4 then .bool (decide (p / 14 < i))
  else if p % 14 = 13 then .bool false
  else .int .i32 0
theorem item_start (w : World) (k : Nat) (il sl : List Int) (b : Nat) (h : w.heap[b]? = some (imade k)) : Vals w b (k * 14) (itemF il sl 0 0) := by
  refine Vals.made h fun p hp => ?_
  have h5 : p % 14 < 14 := Nat.mod_lt _ (by omega)
  simp only [madeCells, iz, Array.getElem?_map, Array.getElem?_range, hp, if_true, Option.map_some, itemF, Nat.not_lt_zero, if_false, false_or, show ¬ (1 ≤ 0) by omega, show ¬ (2 ≤ 0) by omega, and_false, decide_false]
  generalize p % 14 = q at *
  have : q = 0 ∨ q = 1 ∨ q = 2 ∨ q = 3 ∨ q = 4 ∨ q = 5 ∨ q = 6 ∨ q = 7 ∨ q = 8 ∨ q = 9 ∨ q = 10 ∨ q = 11 ∨ q = 12 ∨ q = 13 := by omega
  rcases this with rfl | rfl | rfl | rfl | rfl | rfl | rfl | rfl | rfl | rfl | rfl | rfl | rfl | rfl <;> rfl
theorem item_done {w : World} {b : Nat} {il sl : List Int} (h : Vals w b (il.length * 14) (itemF il sl il.length 0)) : Items w b il sl := by
  intro i hi
  have g : ∀ r, r < 14 → w.cell? ⟨b, i * 14 + r, none⟩ = some (itemF il sl il.length 0 (i * 14 + r)) := fun r hr => (h (i * 14 + r) (by omega)).1
  have e : ∀ r, r < 14 → (i * 14 + r) / 14 = i ∧ (i * 14 + r) % 14 = r := fun r hr => by omega
  have g' : ∀ r, r < 14 → w.cell? ⟨b, i * 14 + r, none⟩ = some (if r = 0 then .int .i64 (il.getD i 0) else if r = 1 then .bool false else if r = 2 then .int .i32 (sl.getD i 0) else if r = 3 then .slice none 0 0 else if r = 4 then .bool true else if r = 13 then .bool false else .int .i32 0) := by
    intro r hr
    rw [g r hr, itemF, (e r hr).1, (e r hr).2]
    simp [hi]
  refine ⟨?_, ?_, ?_, ?_, ?_, ?_, ?_, ?_, ?_, ?_, ?_, ?_, ?_, ?_⟩
  · simpa using g' 0 (by omega)
  · simpa using g' 1 (by omega)
  · simpa using g' 2 (by omega)
  · simpa using g' 3 (by omega)
  · simpa using g' 4 (by omega)
  · simpa using g' 5 (by omega)
  · simpa using g' 6 (by omega)
  · simpa using g' 7 (by omega)
  · simpa using g' 8 (by omega)
  · simpa using g' 9 (by omega)
  · simpa using g' 10 (by omega)
  · simpa using g' 11 (by omega)
  · simpa using g' 12 (by omega)
  · simpa using g' 13 (by omega)
section
variable {w : World} {b k i : Nat} {il sl : List Int}
theorem item_set0 (h : Vals w b (k * 14) (itemF il sl i 0)) : Vals (w.setCell ⟨b, i * 14, none⟩ (.int .i64 (il.getD i 0))) b (k * 14) (itemF il sl i 1) := by
  refine (h.set (i * 14) _).congr fun p hp => ?_
  by_cases e : p = i * 14
  · rw [if_pos e]; subst e; simp [itemF]
  · rw [if_neg e]
    unfold itemF
    by_cases c : p % 14 = 0
    · simp only [c, if_true]; congr 1; have : ¬ p / 14 = i := by omega
      simp [this]
    · simp [c]
theorem item_set2 (h : Vals w b (k * 14) (itemF il sl i 1)) : Vals (w.setCell ⟨b, i * 14 + 2, none⟩ (.int .i32 (sl.getD i 0))) b (k * 14) (itemF il sl i 2) := by
  refine (h.set (i * 14 + 2) _).congr fun p hp => ?_
  by_cases e : p = i * 14 + 2
  · have e1 : p / 14 = i := by omega
    have e2 : p % 14 = 2 := by omega
    rw [if_pos e]; unfold itemF; simp [e1, e2]
  · rw [if_neg e]
    unfold itemF
    by_cases c : p % 14 = 2
    · have : ¬ p / 14 = i := by omega
      simp [c, this]
    · simp [c]
theorem item_set4 (h : Vals w b (k * 14) (itemF il sl i 2)) : Vals (w.setCell ⟨b, i * 14 + 4, none⟩ (.bool true)) b (k * 14) (itemF il sl (i + 1) 0) := by
  refine (h.set (i * 14 + 4) _).congr fun p hp => ?_
  have k1 : (p / 14 < i ∨ p / 14 = i) ↔ p / 14 < i + 1 := by omega
  by_cases e : p = i * 14 + 4
  · have e1 : p / 14 = i := by omega
    have e2 : p % 14 = 4 := by omega
    rw [if_pos e]; unfold itemF; simp [e1, e2]
  · rw [if_neg e]
    unfold itemF
    by_cases c : p % 14 = 4
    · have : ¬ p / 14 = i := by omega
      have k2 : (p / 14 < i) ↔ (p / 14 < i + 1) := by omega
      simp [c, k2]
    · simp [c, k1]
end

/-- append([]T(nil), x...), x not empty: a new row of x's numbers, with room behind them. -/
theorem append_fresh (k : IntKind) (t e : TypeId) (bytes : Nat) (ht : Try.prog.underlying t = some (.slice e)) (hinfo : (Try.prog.info? e).map (fun i => (i.zero, i.size, i.bytes)) = some (some (.int k 0), 1, bytes)) (hby : bytes ≤ 8)
    (w : World) (ty : TypeId) (a : Option Addr) (xs : List Int) (c : Nat) (hx : xs ≠ []) (hl : xs.length ≤ 1000000) (hr : Rd k w a xs) :
    ∃ cap row, (Builtin.append_ #[t, t] ty #[.slice none 0 0, .slice a xs.length c]).run Try.prog w = .ok (.slice (some ⟨w.heap.size, 0, none⟩) xs.length cap) (w.drew.alloc (.cells (irow k row) e)) ∧ row.length = cap ∧ xs.length ≤ cap ∧ row.take xs.length = xs := by
  obtain ⟨i0, hi, hz0, hz1, hz2⟩ := info_parts hinfo
  have hpos : 0 < xs.length := List.length_pos_iff.2 hx
  cases a with
  | none => have := Rd.none_nil hr; exact absurd this hx
  | some ad =>
    have h := run_append_nil (P := Try.prog) w t ty e i0 (.int k 0) ht hi hz0 ad xs.length c (xs.map (Value.int k)) (by simp [hz1]) hr.news hpos (by omega) (by rw [hz2]; exact Nat.le_trans (Nat.mul_le_mul hl hby) (by omega))
    have hge := grownCap_ge w xs.length 0 e
    refine ⟨grownCap w xs.length 0 e, xs ++ List.replicate (grownCap w xs.length 0 e - xs.length) 0, ?_, by simp; omega, hge, by simp⟩
    have ee : (xs.map (Value.int k)).toArray ++ Builtin.zeroCells (Value.int k 0).cells (grownCap w xs.length 0 e - xs.length) = irow k (xs ++ List.replicate (grownCap w xs.length 0 e - xs.length) 0) := by
      generalize grownCap w xs.length 0 e - xs.length = m
      apply Array.ext'
      simp [irow, Builtin.zeroCells, Value.cells]
      apply List.ext_getElem?
      intro i
      by_cases hi : i < m
      · simp [hi, Nat.mod_one]
      · simp [hi]
    rw [h, ee]
theorem append_none (t e : TypeId) (ht : Try.prog.underlying t = some (.slice e)) (i0 : TypeInfo) (hi : Try.prog.info? e = some i0) (w : World) (ty : TypeId) (a : Option Addr) (c : Nat) :
    (Builtin.append_ #[t, t] ty #[.slice none 0 0, .slice a 0 c]).run Try.prog w = .ok (.slice none 0 0) w := by
  cases a <;> simp [Builtin.append_, run_underlying ht, sizeOf, typeInfo, hi, Builtin.lenOf, Builtin.firstCells, storeCells, loadCells, loadCellsFrom]

theorem step_append_run {ops : Array Oper} {o : Oper} {a : Act} {w : World} {K : Act → World → Prop} {Q : Exit → Act → World → Prop} {E : Prop} (hg : o.guard = none) (s x : Operand) (t : TypeId)
    (hop : o.op = Op.call { callee := Callee.builtin Builtin.append, args := #[s, x], argTypes := #[t, t] }) (u v2 : Value) (hs : a.eval s = u) (hx : a.eval x = v2) (v : Value) (w' : World)
    (hrun : (Builtin.append_ #[t, t] o.type #[u, v2]).run Try.prog w = .ok v w') (hK : K (a.put o.dst v) w') :
    if Region.wanted o (yielded ops a.tmps) = true then Oper.wp Try.prog o a w K Q else E := by
  have hw : Region.wanted o (yielded ops a.tmps) = true := by simp [Region.wanted, hg]
  rw [if_pos hw]
  unfold Oper.wp
  simp [execOp, hop, resolve, invoke, builtin, hs, hx, hrun, Result.andThen]
  exact hK
theorem al_cell {W : World} {b off : Nat} {v : Value} (h : W.cell? ⟨b, off, none⟩ = some v) (o : Obj) : (W.alloc o).cell? ⟨b, off, none⟩ = some v :=
  (World.cell?_of_block (a := ⟨b, off, none⟩) (Below.heap_alloc W o b (cell_lt h))).trans h
theorem but_cell {W W' : World} {c b off : Nat} {v : Value} (hb : But W W' c) (hc : b ≠ c) (h : W.cell? ⟨b, off, none⟩ = some v) : W'.cell? ⟨b, off, none⟩ = some v :=
  (World.cell?_of_block (a := ⟨b, off, none⟩) (hb.block b hc)).trans h

/-- From w to w' nothing of w's blocks has turned but block b; new blocks may have come. -/
structure Only (w w' : World) (b : Nat) : Prop where
  os : w'.os = w.os
  tape : w'.tape = w.tape
  output : w'.output = w.output
  size : w.heap.size ≤ w'.heap.size
  block : ∀ k, k < w.heap.size → k ≠ b → w'.heap[k]? = w.heap[k]?
theorem Only.refl (w : World) (b : Nat) : Only w w b := ⟨rfl, rfl, rfl, Nat.le_refl _, fun _ _ _ => rfl⟩
theorem Only.but {w w1 w2 : World} {b : Nat} (h : Only w w1 b) (hb : But w1 w2 b) : Only w w2 b :=
  ⟨hb.os.trans h.os, hb.tape.trans h.tape, hb.output.trans h.output, by rw [hb.size]; exact h.size, fun k h1 h2 => (hb.block k h2).trans (h.block k h1 h2)⟩
theorem Only.bel {w w1 w2 : World} {b : Nat} (h : Only w w1 b) (hb : Below w1.heap.size w1 w2) : Only w w2 b :=
  ⟨hb.os.trans h.os, hb.tape.trans h.tape, hb.output.trans h.output, Nat.le_trans h.size hb.size, fun k h1 h2 => (hb.block k (Nat.lt_of_lt_of_le h1 h.size)).trans (h.block k h1 h2)⟩
theorem Only.set {w w1 : World} {b o : Nat} {v : Value} (h : Only w w1 b) : Only w (w1.setCell ⟨b, o, none⟩ v) b :=
  ⟨h.os, h.tape, h.output, by simpa [World.setCell] using h.size, fun k h1 h2 => (heap_set_other h2).trans (h.block k h1 h2)⟩
theorem Only.drew {w w1 : World} {b : Nat} (h : Only w w1 b) : Only w w1.drew b := ⟨h.os, h.tape, h.output, h.size, h.block⟩
theorem Only.cell {w w1 : World} {b c o : Nat} {v : Value} (h : Only w w1 b) (hc : c ≠ b) (hv : w.cell? ⟨c, o, none⟩ = some v) : w1.cell? ⟨c, o, none⟩ = some v :=
  (World.cell?_of_block (a := ⟨c, o, none⟩) (h.block c (cell_lt hv) hc)).trans hv
theorem Only.below {w0 w w' : World} {b B : Nat} (h0 : Below B w0 w) (h : Only w w' b) (hB : B ≤ b) (hS : B ≤ w.heap.size) : Below B w0 w' :=
  h0.trans ⟨h.os, h.tape, h.output, h.size, fun k hk => h.block k (by omega) (by omega)⟩
end Go.Proofs.Qxb6616202a.Prune
