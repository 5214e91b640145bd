import Derived.Test.Qxb6616202aPStB
namespace Go.Proofs.Qxb6616202a.Prune
open Go.RowKit Go.Proofs.Qxb6616202a.Kit Go.Proofs.Qxb6616202a.Flow
set_option linter.unusedVariables false
set_option linter.unusedSimpArgs false

section
variable {w : World} {ops : Array Oper} {rest : List Oper} {o : Oper} {a : Act} {Q : Exit → Act → World → Prop}
theorem upd_law (hg : o.guard = none) (m x v : Operand) (hop : o.op = Op.mapUpdate 98 m x v) (b : Nat) (A B : List (Int × Value)) (k : Int) (v0 u : Value) (hm : a.eval m = .map (some b)) (hx : a.eval x = .int .u64 k) (hv : a.eval v = u)
    (h : MapIs w b (A ++ (k, v0) :: B)) (hA : ∀ p ∈ A, p.1 ≠ k) (hK : ∀ w', MapIs w' b (A ++ (k, u) :: B) → But w w' b → wpList Try.prog ops Q rest (a.put o.dst undef) w') : wpList Try.prog ops Q (o :: rest) a w := by
  refine wpList_plain hg fun K' hK' => ?_
  obtain ⟨w', hrun, r1, r2⟩ := upd_hit h hA u
  unfold Oper.wp
  simp [execOp, hop, hm, hx, hv, hrun, Result.andThen]
  exact hK' _ _ (hK w' r1 r2)
theorem updm_law (hg : o.guard = none) (m x v : Operand) (hop : o.op = Op.mapUpdate 98 m x v) (b : Nat) (A : List (Int × Value)) (k : Int) (u : Value) (hm : a.eval m = .map (some b)) (hx : a.eval x = .int .u64 k) (hv : a.eval v = u)
    (h : MapIs w b A) (hA : ∀ p ∈ A, p.1 ≠ k) (hK : ∀ w', MapIs w' b (A ++ [(k, u)]) → But w w' b → wpList Try.prog ops Q rest (a.put o.dst undef) w') : wpList Try.prog ops Q (o :: rest) a w := by
  refine wpList_plain hg fun K' hK' => ?_
  obtain ⟨w', hrun, r1, r2⟩ := upd_miss h hA u
  unfold Oper.wp
  simp [execOp, hop, hm, hx, hv, hrun, Result.andThen]
  exact hK' _ _ (hK w' r1 r2)
theorem del_law (hg : o.guard = none) (m x : Operand) (hop : o.op = Op.call { callee := Callee.builtin Builtin.delete, args := #[m, x], argTypes := #[98, 56] }) (b : Nat) (A B : List (Int × Value)) (k : Int) (v0 : Value)
    (hm : a.eval m = .map (some b)) (hx : a.eval x = .int .u64 k) (h : MapIs w b (A ++ (k, v0) :: B)) (hA : ∀ p ∈ A, p.1 ≠ k) (hK : ∀ w', MapIs w' b (A ++ B) → But w w' b → wpList Try.prog ops Q rest (a.put o.dst (.tuple #[])) w') :
    wpList Try.prog ops Q (o :: rest) a w := by
  refine wpList_plain hg fun K' hK' => ?_
  obtain ⟨w', hrun, r1, r2⟩ := del_hit h hA o.type
  unfold Oper.wp
  simp [execOp, hop, resolve, invoke, builtin, hm, hx, hrun, Result.andThen]
  exact hK' _ _ (hK w' r1 r2)
end

theorem cut31 (a : Option Addr) (m c : Nat) (w : World) : (Instr.slice 31 (.slice a m c) none (some (.int .i64 0)) none).run Try.prog w = .ok (.slice a 0 c) w := by
  have h1 : (0 : Int) ≤ (c : Int) := by omega
  simp [Instr.slice, run_underlying Try.underlying31, Instr.sliceBounds, run_sliceBound, h1, Result.andThen]
  intro _
  cases a with
  | none => rfl
  | some x => simp [Addr.add]
theorem cut39 (a : Option Addr) (m c : Nat) (w : World) : (Instr.slice 39 (.slice a m c) none (some (.int .i64 0)) none).run Try.prog w = .ok (.slice a 0 c) w := by
  have h1 : (0 : Int) ≤ (c : Int) := by omega
  simp [Instr.slice, run_underlying Try.underlying39, Instr.sliceBounds, run_sliceBound, h1, Result.andThen]
  intro _
  cases a with
  | none => rfl
  | some x => simp [Addr.add]

section
variable {G : Geo} {w : World} {n : Nat} {st pr : Int}
theorem lobj_cells (h : w.heap[G.bL]? = some (lobj G n st pr)) : w.cell? ⟨G.bL, 0, none⟩ = some (.int .i32 G.id) ∧ w.cell? ⟨G.bL, 1, none⟩ = some (.slice (some ⟨G.bI, 0, none⟩) G.il.length G.il.length) ∧ w.cell? ⟨G.bL, 2, none⟩ = some (.int .i64 G.lv) ∧ w.cell? ⟨G.bL, 3, none⟩ = some (.int .i64 G.dd) ∧
    w.cell? ⟨G.bL, 4, none⟩ = some (.slice G.aK n G.cK) ∧ w.cell? ⟨G.bL, 5, none⟩ = some (.int .i64 st) ∧ w.cell? ⟨G.bL, 6, none⟩ = some (.int .i64 pr) := by
  unfold lobj at h
  refine ⟨?_, ?_, ?_, ?_, ?_, ?_, ?_⟩ <;> (rw [cell_of_row _ _ _ _ _ _ h]; rfl)
theorem lobj_froz (h : w.heap[G.bL]? = some (lobj G n st pr)) (j : Nat) : w.frozen? ⟨G.bL, j, none⟩ = false := froz_row h
theorem lobj_set5 (h : w.heap[G.bL]? = some (lobj G n st pr)) (v : Int) : (w.setCell ⟨G.bL, 5, none⟩ (.int .i64 v)).heap[G.bL]? = some (lobj G n v pr) := by
  unfold lobj at h ⊢
  simp [World.setCell, Array.getElem?_modify, h]
theorem lobj_set6 (h : w.heap[G.bL]? = some (lobj G n st pr)) (v : Int) : (w.setCell ⟨G.bL, 6, none⟩ (.int .i64 v)).heap[G.bL]? = some (lobj G n st v) := by
  unfold lobj at h ⊢
  simp [World.setCell, Array.getElem?_modify, h]
theorem lobj_set4 (h : w.heap[G.bL]? = some (lobj G n st pr)) (m : Nat) : (w.setCell ⟨G.bL, 4, none⟩ (.slice G.aK m G.cK)).heap[G.bL]? = some (lobj G m st pr) := by
  unfold lobj at h ⊢
  simp [World.setCell, Array.getElem?_modify, h]
end
theorem EntOk.keep {w w' : World} {e : Ent} (h : EntOk w e) (hb : e.xs ≠ [] → w'.heap[e.g]? = w.heap[e.g]?) : EntOk w' e := by
  rcases h with h | ⟨h0, h1, h2, h3⟩
  · exact .inl h
  · exact .inr ⟨h0, h1, (hb h0).trans h2, h3⟩
theorem done_zero (G : Geo) (E : List Ent) : G.done E 0 = [] := rfl
theorem PL.start {G : Geo} {w : World} {E : List Ent} {st pr : Int} {rk : List Int} (h : PState G w E st pr rk) : PL G w E rk pr 0 (w.setCell ⟨G.bL, 5, none⟩ (.int .i64 0)) := by
  have hs : ∀ b, b ≠ G.bL → (w.setCell ⟨G.bL, 5, none⟩ (.int .i64 0)).heap[b]? = w.heap[b]? := fun b hb => heap_set_other hb
  refine ⟨fun b hb => hs b fun q => h.ap.ls (q ▸ hb), ?_, ?_, ?_, ?_, (Below.refl _ _).setCell h.ap.bl _⟩
  · have := lobj_set5 h.hL 0
    rw [done_zero]; exact this
  · rw [done_zero, List.drop_zero, List.nil_append]
    exact h.hM.same (hs _ h.ap.lm.symm)
  · intro e he
    rw [done_zero, List.drop_zero, List.nil_append] at he
    exact (h.hE e he).keep fun hx => hs _ (h.ap.es e he hx).2.1
  · intro hn
    rw [hs _ h.ap.lk.symm, done_zero]
    simpa using (h.hK hn).2.1

/-- Where an entry of the state lies. -/
theorem entry_of {G : Geo} {E : List Ent} (ap : Apart G E) {i : Nat} {f : Ent} (hf : f ∈ G.done E i ++ E.drop i) (hx : f.xs ≠ []) : ¬ G.stat f.g ∧ f.g ≠ G.bL ∧ f.g ≠ G.bM ∧ f.g ≠ G.gK ∧ G.base ≤ f.g := by
  rw [List.mem_append] at hf
  rcases hf with hf | hf
  · obtain ⟨e, he, rfl, hn⟩ := mem_done hf
    exact ap.es e (List.mem_of_mem_take he) fun q => hn (filt_nil q)
  · exact ap.es f (List.mem_of_mem_drop hf) hx
theorem kept_kv (G : Geo) (e : Ent) : kvOf G.id (G.kept e) = (sk G.id e.lock, .slice e.a (G.filt e).length e.c) := rfl
theorem sub_done {G : Geo} {E : List Ent} {i : Nat} (hi : i < E.length) {f : Ent} (hf : f ∈ G.done E i ++ E.drop (i + 1)) : f ∈ G.done E i ++ E.drop i := by
  rw [List.mem_append] at hf ⊢
  rcases hf with hf | hf
  · exact .inl hf
  · right; rw [drop_cons hi]; exact List.mem_cons_of_mem _ hf

/-- The lock's entry is gone. -/
theorem PL.no {G : Geo} {w wr wx wy : World} {E : List Ent} {rk : List Int} {pr : Int} {i : Nat} (h : PL G w E rk pr i wr) (ap : Apart G E) (hi : i < E.length) (hst : Stat G w) (ht : Turn wr wx E[i]) (hf : G.filt E[i] = [])
    (hb : But wx wy G.bM) (hm : MapIs wy G.bM ((G.done E i).map (kvOf G.id) ++ (E.drop (i + 1)).map (kvOf G.id))) : PL G w E rk pr (i + 1) wy := by
  obtain ⟨t1, t2, t3, t4, t5, t6⟩ := h.turn ap hi hst ht
  have e := done_no hi hf
  refine ⟨fun b hbs => (hb.block b fun q => ap.ms (q ▸ hbs)).trans (t1 b hbs), ?_, ?_, ?_, ?_, t6.trans (hb.below ap.bm)⟩
  · rw [hb.block _ ap.lm, e]; exact t2
  · rw [e, List.map_append]; exact hm
  · intro f hf'
    rw [e] at hf'
    exact (t4 f hf').keep fun hx => hb.block _ (entry_of ap (sub_done hi hf') hx).2.2.1
  · intro hn
    rw [e, hb.block _ ap.mg.symm]; exact t5 hn

theorem sumL_append (A B : List Ent) : sumL (A ++ B) = sumL A + sumL B := by unfold sumL; rw [List.map_append, List.sum_append]; omega
theorem locks_step (D : List Ent) (rk : List Int) (e : Ent) (h : D.length < rk.length) : (D.map (·.lock) ++ rk.drop D.length).set D.length e.lock = (D ++ [e]).map (·.lock) ++ rk.drop (D ++ [e]).length := by
  have := row_step (D.map (·.lock)) rk e.lock (by simpa using h)
  simpa using this
/-- The lock's entry is cut down. -/
theorem PL.yes {G : Geo} {w wr wx wq : World} {E : List Ent} {rk : List Int} {pr : Int} {i : Nat} (h : PL G w E rk pr i wr) (ap : Apart G E) (hi : i < E.length) (hst : Stat G w) (ht : Turn wr wx E[i]) (hf : G.filt E[i] ≠ []) (hok : EntOk wr E[i])
    (hrow : wx.heap[E[i].g]? = some (.cells (irow .i64 (G.filt E[i] ++ E[i].row.drop (G.filt E[i]).length)) 3 (0, 0))) (hle : (G.filt E[i]).length ≤ E[i].xs.length)
    (q0 : wq.os = wx.os) (q1 : wq.tape = wx.tape) (q2 : wq.output = wx.output) (q3 : wx.heap.size ≤ wq.heap.size) (q4 : ∀ b, b < wx.heap.size → b ≠ G.bM → b ≠ G.gK → b ≠ G.bL → wq.heap[b]? = wx.heap[b]?)
    (hL : wq.heap[G.bL]? = some (lobj G E.length (sumL (G.done E i) + (G.filt E[i]).length) pr)) (hm : MapIs wq G.bM ((G.done E i).map (kvOf G.id) ++ kvOf G.id (G.kept E[i]) :: (E.drop (i + 1)).map (kvOf G.id)))
    (hK : E ≠ [] → wq.heap[G.gK]? = some (.cells (irow .i32 (((G.done E i).map (·.lock) ++ rk.drop (G.done E i).length).set (G.done E i).length E[i].lock)) 21 (0, 0))) (hrk : E ≠ [] → E.length ≤ rk.length) : PL G w E rk pr (i + 1) wq := by
  obtain ⟨t1, t2, t3, t4, t5, t6⟩ := h.turn ap hi hst ht
  have e := done_yes hi hf
  have hn : E ≠ [] := by rintro rfl; simp at hi
  have hxn : E[i].xs ≠ [] := fun q => hf (filt_nil q)
  have hwx : w.heap.size ≤ wx.heap.size := t6.size
  have stlt : ∀ b, G.stat b → b < wx.heap.size := by
    intro b hb
    rcases hb with rfl | rfl | rfl | rfl | hb
    · exact Nat.lt_of_lt_of_le (cell_lt hst.s0) hwx
    · exact Nat.lt_of_lt_of_le (cell_lt hst.h0) hwx
    · exact Nat.lt_of_lt_of_le hst.ltN hwx
    · exact Nat.lt_of_lt_of_le hst.ltI hwx
    · exact Nat.lt_of_lt_of_le (hst.ltE b hb) hwx
  have hd : (G.done E i).length < rk.length := by have := done_le G E i; have := hrk hn; omega
  refine ⟨fun b hbs => (q4 b (stlt b hbs) (fun q => ap.ms (q ▸ hbs)) (fun q => ap.ks (q ▸ hbs)) fun q => ap.ls (q ▸ hbs)).trans (t1 b hbs), ?_, ?_, ?_, ?_, ?_⟩
  · rw [e, sumL_append]
    have : sumL [G.kept E[i]] = (G.filt E[i]).length := by simp [sumL, Geo.kept]
    rw [this]; exact hL
  · rw [e, List.map_append, List.map_append, List.map_cons, List.map_nil, List.append_assoc]; exact hm
  · intro f hf'
    rw [e, List.append_assoc, List.mem_append, List.mem_append] at hf'
    have key : f ∈ G.done E i ++ E.drop (i + 1) ∨ f = G.kept E[i] := by
      rcases hf' with q | q | q
      · exact .inl (List.mem_append.2 (.inl q))
      · exact .inr (by simpa using q)
      · exact .inl (List.mem_append.2 (.inr q))
    rcases key with q | rfl
    · have hok' := t4 f q
      refine hok'.keep fun hx => ?_
      have hlt : f.g < wx.heap.size := by
        rcases hok' with r | r
        · exact absurd r.1 hx
        · exact obj_lt r.2.2.1
      have he := entry_of ap (sub_done hi q) hx
      exact q4 _ hlt he.2.2.1 he.2.2.2.1 he.2.1
    · have he := entry_blocks ap hi hxn
      rcases hok with r | ⟨r0, r1, r2, r3, r4, r5⟩
      · exact absurd r.1 hxn
      · refine .inr ⟨hf, r1, ?_, ?_, ?_, ?_⟩
        · show wq.heap[E[i].g]? = _
          rw [q4 _ (obj_lt hrow) he.2.2.1 he.2.2.2.1 he.2.1]; exact hrow
        · show (G.filt E[i] ++ E[i].row.drop (G.filt E[i]).length).length = E[i].c
          simp; omega
        · show (G.filt E[i]).length ≤ E[i].c
          omega
        · show (G.filt E[i] ++ E[i].row.drop (G.filt E[i]).length).take (G.filt E[i]).length = G.filt E[i]
          simp
  · intro _
    rw [hK hn, e, show E[i].lock = (G.kept E[i]).lock from rfl, locks_step _ _ _ hd]
  · refine t6.trans ⟨q0, q1, q2, q3, fun k hk => ?_⟩
    have h1 := ap.bl
    have h2 := ap.bm
    have h3 := ap.bk
    have h4 := obj_lt t2
    exact q4 k (by omega) (by omega) (by omega) (by omega)
end Go.Proofs.Qxb6616202a.Prune
