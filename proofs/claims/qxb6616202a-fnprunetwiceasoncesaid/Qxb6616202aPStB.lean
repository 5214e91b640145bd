import Derived.Test.Qxb6616202aPStA
namespace Go.Proofs.Qxb6616202a.Prune
open Go.RowKit Go.Proofs.Qxb6616202a.Kit Go.Proofs.Qxb6616202a.Flow
set_option linter.unusedVariables false
set_option linter.unusedSimpArgs false

def Geo.proc (G : Geo) (e : Ent) : Option Ent := Prune.proc G.nk G.nl G.nr G.il G.sl e
def Geo.filt (G : Geo) (e : Ent) : List Int := Prune.filt G.nk G.nl G.nr G.il G.sl e
def Geo.done (G : Geo) (E : List Ent) (i : Nat) : List Ent := (E.take i).filterMap G.proc
def sumL (E : List Ent) : Int := ((E.map fun e => e.xs.length).sum : Nat)
theorem done_le (G : Geo) (E : List Ent) (i : Nat) : (G.done E i).length ≤ i := by
  unfold Geo.done
  exact Nat.le_trans (List.length_filterMap_le _ _) (by simp; omega)
theorem drop_cons {E : List Ent} {i : Nat} (h : i < E.length) : E.drop i = E[i] :: E.drop (i + 1) := List.drop_eq_getElem_cons h
theorem take_snoc {E : List Ent} {i : Nat} (h : i < E.length) : E.take (i + 1) = E.take i ++ [E[i]] := List.take_succ_eq_append_getElem h
theorem done_no {G : Geo} {E : List Ent} {i : Nat} (h : i < E.length) (hf : G.filt E[i] = []) : G.done E (i + 1) = G.done E i := by
  unfold Geo.done
  rw [take_snoc h, List.filterMap_append]
  have : G.proc E[i] = none := by unfold Geo.proc proc; rw [if_pos (show filt G.nk G.nl G.nr G.il G.sl E[i] = [] from hf)]
  simp [this]
def Geo.kept (G : Geo) (e : Ent) : Ent := { e with xs := G.filt e, row := G.filt e ++ e.row.drop (G.filt e).length }
theorem done_yes {G : Geo} {E : List Ent} {i : Nat} (h : i < E.length) (hf : G.filt E[i] ≠ []) : G.done E (i + 1) = G.done E i ++ [G.kept E[i]] := by
  unfold Geo.done
  rw [take_snoc h, List.filterMap_append]
  have : G.proc E[i] = some (G.kept E[i]) := by unfold Geo.proc proc; rw [if_neg (show ¬ filt G.nk G.nl G.nr G.il G.sl E[i] = [] from hf)]; rfl
  simp [this]

/-- prune, on its way: i locks are done. -/
structure PL (G : Geo) (w : World) (E : List Ent) (rk : List Int) (pr : Int) (i : Nat) (wr : World) : Prop where
  st : ∀ b, G.stat b → wr.heap[b]? = w.heap[b]?
  hL : wr.heap[G.bL]? = some (lobj G E.length (sumL (G.done E i)) pr)
  hM : MapIs wr G.bM ((G.done E i ++ E.drop i).map (kvOf G.id))
  hE : ∀ e ∈ G.done E i ++ E.drop i, EntOk wr e
  hK : E ≠ [] → wr.heap[G.gK]? = some (.cells (irow .i32 ((G.done E i).map (·.lock) ++ rk.drop (G.done E i).length)) 21 (0, 0))
  bel : Below G.base w wr

/-- From wr to wx only e's own row may have turned; new blocks may have come. -/
structure Turn (wr wx : World) (e : Ent) : Prop where
  os : wx.os = wr.os
  tape : wx.tape = wr.tape
  output : wx.output = wr.output
  size : wr.heap.size ≤ wx.heap.size
  block : ∀ b, b < wr.heap.size → (e.xs ≠ [] → b ≠ e.g) → wx.heap[b]? = wr.heap[b]?
theorem Turn.refl (w : World) (e : Ent) : Turn w w e := ⟨rfl, rfl, rfl, Nat.le_refl _, fun _ _ _ => rfl⟩
theorem Turn.below {wr wx wy : World} {e : Ent} (h : Turn wr wx e) (hb : Below wx.heap.size wx wy) : Turn wr wy e :=
  ⟨hb.os.trans h.os, hb.tape.trans h.tape, hb.output.trans h.output, Nat.le_trans h.size hb.size, fun b h1 h2 => (hb.block b (Nat.lt_of_lt_of_le h1 h.size)).trans (h.block b h1 h2)⟩
theorem Turn.but {wr wx wy : World} {e : Ent} (h : Turn wr wx e) (hb : But wx wy e.g) (hx : e.xs ≠ []) : Turn wr wy e :=
  ⟨hb.os.trans h.os, hb.tape.trans h.tape, hb.output.trans h.output, by rw [hb.size]; exact h.size, fun b h1 h2 => (hb.block b (h2 hx)).trans (h.block b h1 h2)⟩
theorem obj_lt {w : World} {b : Nat} {o : Obj} (h : w.heap[b]? = some o) : b < w.heap.size := (Array.getElem?_eq_some_iff.1 h).1

theorem mem_done {G : Geo} {E : List Ent} {i : Nat} {f : Ent} (h : f ∈ G.done E i) : ∃ e ∈ E.take i, f = G.kept e ∧ G.filt e ≠ [] := by
  unfold Geo.done at h
  rw [List.mem_filterMap] at h
  obtain ⟨e, he, hp⟩ := h
  refine ⟨e, he, ?_⟩
  unfold Geo.proc proc at hp
  by_cases c : filt G.nk G.nl G.nr G.il G.sl e = []
  · rw [if_pos c] at hp; cases hp
  · rw [if_neg c] at hp; exact ⟨by simpa [Geo.kept, Geo.filt] using hp.symm, c⟩
theorem filt_nil {G : Geo} {e : Ent} (h : e.xs = []) : G.filt e = [] := by unfold Geo.filt filt; rw [h]; rfl
/-- Another entry's row is not e's. -/
theorem other_row {G : Geo} {E : List Ent} (ap : Apart G E) {i : Nat} (hi : i < E.length) {f : Ent} (hf : f ∈ G.done E i ++ E.drop (i + 1)) : f.xs ≠ [] → E[i].xs ≠ [] → f.g ≠ E[i].g := by
  have hsplit : E = E.take i ++ E[i] :: E.drop (i + 1) := by rw [← drop_cons hi, List.take_append_drop]
  have hp := ap.ee
  rw [hsplit, List.pairwise_append] at hp
  obtain ⟨_, h2, h3⟩ := hp
  rw [List.pairwise_cons] at h2
  rw [List.mem_append] at hf
  rcases hf with hf | hf
  · obtain ⟨e, he, rfl, hn⟩ := mem_done hf
    intro _ h5
    exact h3 e he E[i] List.mem_cons_self (fun q => hn (filt_nil q)) h5
  · intro h4 h5 q
    exact h2.1 f hf h5 h4 q.symm
theorem entry_blocks {G : Geo} {E : List Ent} (ap : Apart G E) {i : Nat} (hi : i < E.length) (hx : E[i].xs ≠ []) : ¬ G.stat E[i].g ∧ E[i].g ≠ G.bL ∧ E[i].g ≠ G.bM ∧ E[i].g ≠ G.gK ∧ G.base ≤ E[i].g := ap.es _ (List.getElem_mem hi) hx
/-- What is left of the state while the entry's own row turns. -/
theorem PL.turn {G : Geo} {w wr wx : World} {E : List Ent} {rk : List Int} {pr : Int} {i : Nat} (h : PL G w E rk pr i wr) (ap : Apart G E) (hi : i < E.length) (hst : Stat G w) (ht : Turn wr wx E[i]) :
    (∀ b, G.stat b → wx.heap[b]? = w.heap[b]?) ∧ wx.heap[G.bL]? = some (lobj G E.length (sumL (G.done E i)) pr) ∧ MapIs wx G.bM ((G.done E i ++ E.drop i).map (kvOf G.id)) ∧ (∀ e ∈ G.done E i ++ E.drop (i + 1), EntOk wx e) ∧
      (E ≠ [] → wx.heap[G.gK]? = some (.cells (irow .i32 ((G.done E i).map (·.lock) ++ rk.drop (G.done E i).length)) 21 (0, 0))) ∧ Below G.base w wx := by
  have stlt : ∀ b, G.stat b → b < wr.heap.size := by
    intro b hb
    have hs : w.heap.size ≤ wr.heap.size := h.bel.size
    rcases hb with rfl | rfl | rfl | rfl | hb
    · exact Nat.lt_of_lt_of_le (cell_lt hst.s0) hs
    · exact Nat.lt_of_lt_of_le (cell_lt hst.h0) hs
    · exact Nat.lt_of_lt_of_le hst.ltN hs
    · exact Nat.lt_of_lt_of_le hst.ltI hs
    · exact Nat.lt_of_lt_of_le (hst.ltE b hb) hs
  refine ⟨fun b hb => (ht.block b (stlt b hb) fun hx q => (entry_blocks ap hi hx).1 (q ▸ hb)).trans (h.st b hb), ?_, ?_, ?_, ?_, ?_⟩
  · rw [ht.block _ (obj_lt h.hL) fun hx q => (entry_blocks ap hi hx).2.1 q.symm]; exact h.hL
  · exact h.hM.same (ht.block _ h.hM.lt fun hx q => (entry_blocks ap hi hx).2.2.1 q.symm)
  · intro f hf
    have hok := h.hE f (by
      rw [List.mem_append] at hf ⊢
      rcases hf with hf | hf
      · exact .inl hf
      · right; rw [drop_cons hi]; exact List.mem_cons_of_mem _ hf)
    rcases hok with hok | hok
    · exact .inl hok
    · refine .inr ⟨hok.1, hok.2.1, ?_, hok.2.2.2⟩
      rw [ht.block _ (obj_lt hok.2.2.1) fun hx q => other_row ap hi hf hok.1 hx q]; exact hok.2.2.1
  · intro hn
    have := h.hK hn
    rw [ht.block _ (obj_lt this) fun hx q => (entry_blocks ap hi hx).2.2.2.1 q.symm]; exact this
  · refine h.bel.trans ⟨ht.os, ht.tape, ht.output, ht.size, fun k hk => ?_⟩
    by_cases hk2 : k < wr.heap.size
    · exact ht.block k hk2 fun hx q => by have := (entry_blocks ap hi hx).2.2.2.2; omega
    · have := h.bel.size
      have hb := ap.bl
      have := obj_lt h.hL
      omega
end Go.Proofs.Qxb6616202a.Prune
