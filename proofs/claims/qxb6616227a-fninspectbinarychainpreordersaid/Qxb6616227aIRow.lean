import Derived.Test.Qxb6616227aIBack
import Derived.ArgAppend
namespace Go.Proofs.Qxb6616227a.Ins
open Go.RowKit
set_option linter.unusedVariables false
set_option linter.unusedSimpArgs false

theorem info28 : (Try.prog.info? 28).map (fun i => (i.zero.map (·.cells.size), i.size, i.bytes)) = some (some 1, 1, 8) := by kernel_rfl
/-- A row of pointers to nodes, with room up to cap. -/
structure PR (w : World) (g cap : Nat) (ns : List Nat) : Prop where
  len : ns.length ≤ cap
  cells : ∀ j, j < ns.length → w.cell? ⟨g, j, none⟩ = some (.pointer (some ⟨ns.getD j 0, 0, none⟩))
  room : ∀ j, j < cap → (w.cell? ⟨g, j, none⟩).isSome = true ∧ w.frozen? ⟨g, j, none⟩ = false
  lt : g < w.heap.size
theorem PR.same {w w' : World} {g cap : Nat} {ns : List Nat} (h : PR w g cap ns) (hb : w'.heap[g]? = w.heap[g]?) (hs : w.heap.size ≤ w'.heap.size) : PR w' g cap ns := by
  have c : ∀ j, w'.cell? ⟨g, j, none⟩ = w.cell? ⟨g, j, none⟩ := fun j => World.cell?_of_block (a := ⟨g, j, none⟩) hb
  have f : ∀ j, w'.frozen? ⟨g, j, none⟩ = w.frozen? ⟨g, j, none⟩ := fun j => World.frozen?_of_block (a := ⟨g, j, none⟩) hb
  exact ⟨h.len, fun j hj => by rw [c]; exact h.cells j hj, fun j hj => by rw [c, f]; exact h.room j hj, Nat.lt_of_lt_of_le h.lt hs⟩
theorem cell_set (w : World) (b i j : Nat) (v : Value) (u : Value) (h : w.cell? ⟨b, j, none⟩ = some u) : (w.setCell ⟨b, i, none⟩ v).cell? ⟨b, j, none⟩ = some (if j = i then v else u) := by
  simp only [World.cell?, World.setCell, Array.getElem?_modify] at h ⊢
  cases hh : w.heap[b]? with
  | none => simp [hh] at h
  | some o =>
    cases o with
    | cells c t fr =>
      simp [hh] at h ⊢
      by_cases e : j = i
      · subst e
        have hlt : j < c.size := (Array.getElem?_eq_some_iff.1 h).1
        simp [hlt]
      · have e' : ¬ i = j := fun q => e q.symm
        simp [e, e', h]
    | _ => simp [hh] at h
theorem froz_set (w : World) (a p : Addr) (v : Value) : (w.setCell a v).frozen? p = w.frozen? p := by
  simp only [World.frozen?, World.setCell, Array.getElem?_modify]
  by_cases e : a.block = p.block
  · simp only [e, if_true]
    cases hh : w.heap[p.block]? with
    | none => rfl
    | some o => cases o <;> rfl
  · simp [e]
/-- What an append to such a row leaves. -/
structure Pushed (w : World) (g : Nat) (ns : List Nat) (b : Nat) (g' cap' : Nat) (w' : World) : Prop where
  row : PR w' g' cap' (ns ++ [b])
  new : g' = g ∨ w.heap.size ≤ g'
  os : w'.os = w.os
  tape : w'.tape = w.tape
  output : w'.output = w.output
  size : w.heap.size ≤ w'.heap.size
  block : ∀ k, k < w.heap.size → k ≠ g → w'.heap[k]? = w.heap[k]?
theorem run_ptr (w : World) (ty : TypeId) (g cap : Nat) (ns : List Nat) (h : PR w g cap ns) (g0 b : Nat) (hg : w.heap[g0]? = some (.cells #[.pointer (some ⟨b, 0, none⟩)] 28 (0, 0))) (hn : ns.length ≤ 1000000) :
    ∃ g' cap' w', (Builtin.append_ #[124, 124] ty #[.slice (some ⟨g, 0, none⟩) ns.length cap, .slice (some ⟨g0, 0, none⟩) 1 1]).run Try.prog w = .ok (.slice (some ⟨g', 0, none⟩) (ns.length + 1) cap') w' ∧ Pushed w g ns b g' cap' w' := by
  obtain ⟨i, z, hi, hz, hzc, h1, h2⟩ := info_cells info28
  have hnews : ∀ j u, ([Value.pointer (some ⟨b, 0, none⟩)] : List Value)[j]? = some u → w.cell? ((⟨g0, 0, none⟩ : Addr).add j) = some u := by
    intro j u hj
    cases j with
    | zero =>
      simp at hj
      subst hj
      have : (⟨g0, 0, none⟩ : Addr).add 0 = ⟨g0, 0, none⟩ := by simp [Addr.add]
      rw [this, cell_of_row _ _ _ _ _ _ hg]; rfl
    | succ j => simp at hj
  by_cases hr : ns.length + 1 ≤ cap
  · have hroom := h.room ns.length (by omega)
    have hrun := run_append_room_cells (P := Try.prog) w 124 ty 28 i Try.underlying124 hi g 0 ns.length cap ⟨g0, 0, none⟩ 1 1 [.pointer (some ⟨b, 0, none⟩)] (by simp [h1]) hnews (by simp [Value.oneCell']) hr
      (fun j hj => by obtain rfl : j = 0 := by simpa using hj
                      simpa [h1] using hroom.1) (fun j hj => by obtain rfl : j = 0 := by simpa using hj
                                                                simpa [h1] using hroom.2)
    refine ⟨g, cap, _, hrun, ?_⟩
    have e : w.setCells g (0 + ns.length * i.size) [.pointer (some ⟨b, 0, none⟩)] = w.setCell ⟨g, ns.length, none⟩ (.pointer (some ⟨b, 0, none⟩)) := by simp [World.setCells, h1]
    rw [e]
    refine ⟨⟨by simp; omega, ?_, ?_, by rw [size_set]; exact h.lt⟩, .inl rfl, rfl, rfl, rfl, by rw [size_set]; exact Nat.le_refl _, fun k _ hk => Below.heap_setCell _ _ _ _ hk⟩
    · intro j hj
      by_cases c : j < ns.length
      · rw [cell_set _ _ _ _ _ _ (h.cells j c), if_neg (by omega)]
        simp [List.getD_eq_getElem?_getD, List.getElem?_append_left c]
      · obtain rfl : j = ns.length := by simp at hj; omega
        obtain ⟨u, hu⟩ := Option.isSome_iff_exists.1 hroom.1
        rw [cell_set _ _ _ _ _ _ hu, if_pos rfl]
        simp [List.getD_eq_getElem?_getD]
    · intro j hj
      obtain ⟨r1, r2⟩ := h.room j hj
      obtain ⟨u, hu⟩ := Option.isSome_iff_exists.1 r1
      exact ⟨by rw [cell_set _ _ _ _ _ _ hu]; rfl, by rw [froz_set]; exact r2⟩
  · have holds : ∀ j u, (ns.map fun k => Value.pointer (some ⟨k, 0, none⟩))[j]? = some u → w.cell? ((⟨g, 0, none⟩ : Addr).add j) = some u := by
      intro j u hj
      have hadd : (⟨g, 0, none⟩ : Addr).add j = ⟨g, j, none⟩ := by unfold Addr.add; split <;> simp_all
      rw [hadd]
      rw [List.getElem?_map, Option.map_eq_some_iff] at hj
      obtain ⟨k, hk, rfl⟩ := hj
      have hlt : j < ns.length := (List.getElem?_eq_some_iff.1 hk).1
      rw [h.cells j hlt]
      simp [List.getD_eq_getElem?_getD, hk]
    obtain ⟨v', w', hrun, own, hgrow⟩ := run_append_arg_grows (P := Try.prog) w 124 ty 28 i z 1 8 Try.underlying124 hi hz h1 h2 hzc (by decide) ⟨g, 0, none⟩ ns.length cap (ns.map fun k => .pointer (some ⟨k, 0, none⟩)) (by simp) holds ⟨g0, 0, none⟩ 1 1 [.pointer (some ⟨b, 0, none⟩)] (by simp) hnews (by omega) (by unfold maxLen; omega) (by omega)
    obtain ⟨hl, hh | ⟨g', cap', cur, rfl, hg', hh, hn', _, hs, ht⟩⟩ := own
    · omega
    refine ⟨g', cap', w', hrun, ⟨⟨by simp; omega, ?_, ?_, obj_lt hh⟩, .inr hg', hgrow.os, hgrow.tape, hgrow.output, hgrow.size, fun k hk _ => hgrow.block k hk (by simp)⟩⟩
    · intro j hj
      have hj' : j < ns.length + 1 := by simpa using hj
      rw [cell_of_row _ _ _ _ _ _ hh]
      have e := congrArg (fun l => l[j]?) ht
      simp only [List.getElem?_take] at e
      rw [if_pos (by omega)] at e
      rw [Array.getElem?_toList] at e
      rw [e]
      have e2 : ((ns.map fun k => Value.pointer (some ⟨k, 0, none⟩)) ++ [.pointer (some ⟨b, 0, none⟩)]) = (ns ++ [b]).map fun k => Value.pointer (some ⟨k, 0, none⟩) := by simp
      rw [e2, List.getElem?_map]
      simp [List.getD_eq_getElem?_getD, List.getElem?_eq_getElem hj]
    · intro j hj
      refine ⟨?_, by simp [World.frozen?, hh]⟩
      rw [cell_of_row _ _ _ _ _ _ hh]
      have : j < cur.size := by omega
      simp [this]
theorem listIn_ptr {F : Fence} {n : Nat} {ops : Array Oper} {rest : List Oper} {o : Oper} {a : Act} {w : World} {Q : Exit → Act → World → Prop} (hg : o.guard = none) (s x : Operand) (hop : o.op = Op.call { callee := Callee.builtin Builtin.append, args := #[s, x], argTypes := #[124, 124] })
    (g cap : Nat) (ns : List Nat) (m : Nat) (hm : ns.length = m) (h : PR w g cap ns) (hs : a.eval s = .slice (some ⟨g, 0, none⟩) m cap) (g0 b : Nat) (hx : a.eval x = .slice (some ⟨g0, 0, none⟩) 1 1) (hg0 : w.heap[g0]? = some (.cells #[.pointer (some ⟨b, 0, none⟩)] 28 (0, 0))) (hn : ns.length ≤ 1000000)
    (hK : ∀ g' cap' w', Pushed w g ns b g' cap' w' → wpListIn F n Try.prog ops Q rest (a.put o.dst (.slice (some ⟨g', 0, none⟩) (m + 1) cap')) w') : wpListIn F n Try.prog ops Q (o :: rest) a w := by
  subst hm
  refine wpListIn_plain hg fun K hK' => ?_
  obtain ⟨g', cap', w', hrun, hp⟩ := run_ptr w o.type g cap ns h g0 b hg0 hn
  unfold Oper.wpIn
  refine ⟨?_, ?_⟩
  · simp [Oper.about, hop, resolve, Target.leads, Sem.run_pure]
  · rw [Oper.semAt_plain F _ _ (by rw [hop]; intro c hc'; cases hc')]
    simp [execOp, hop, resolve, invoke, builtin, hs, hx, hrun, Result.andThen]
    exact hK' _ _ (hK g' cap' w' hp)
end Go.Proofs.Qxb6616227a.Ins
