import Derived.Test.Qxb6616202aPStC
import Derived.Test.Qxb6616202aPDomA
namespace Go.Proofs.Qxb6616202a.Prune
open Go.RowKit Go.Proofs.Qxb6616202a.Kit Go.Proofs.Qxb6616202a.Flow
set_option linter.unusedVariables false
set_option linter.unusedSimpArgs false

def Geo.K (G : Geo) (e : Ent) (j : Nat) : List Int := kl G.nk G.nl G.nr G.il G.sl e.lock e.xs j
theorem Geo.K_le (G : Geo) (e : Ent) (j : Nat) : (G.K e j).length ≤ j := kl_le ..
/-- The inner loop: j beginnings are done. -/
structure IL (G : Geo) (wr wx : World) (e : Ent) (j : Nat) : Prop where
  turn : Turn wr wx e
  row : e.xs ≠ [] → wx.heap[e.g]? = some (.cells (irow .i64 (G.K e j ++ e.row.drop (G.K e j).length)) 3 (0, 0))
section
variable {G : Geo} {wr wx wy wz : World} {e : Ent} {j : Nat}
theorem IL.start (hok : EntOk wr e) : IL G wr wr e 0 := by
  refine ⟨Turn.refl _ _, fun hx => ?_⟩
  rcases hok with h | h
  · exact absurd h.1 hx
  · have e0 : G.K e 0 ++ e.row.drop (G.K e 0).length = e.row := by simp [Geo.K, kl_zero]
    rw [e0]; exact h.2.2.1
theorem IL.below (h : IL G wr wx e j) (hb : Below wx.heap.size wx wy) : IL G wr wy e j :=
  ⟨h.turn.below hb, fun hx => (hb.block _ (obj_lt (h.row hx))).trans (h.row hx)⟩
theorem IL.no (h : IL G wr wx e j) (hk : keep G.nk G.nl G.nr G.il G.sl e.lock e.xs j = false) : IL G wr wx e (j + 1) := by
  refine ⟨h.turn, fun hx => ?_⟩
  have : G.K e (j + 1) = G.K e j := kl_no hk
  rw [this]; exact h.row hx
theorem IL.yes (h : IL G wr wx e j) (hk : keep G.nk G.nl G.nr G.il G.sl e.lock e.xs j = true) (hx : e.xs ≠ []) (hl : (G.K e j).length < e.row.length) (hb : But wx wz e.g)
    (hr : wz.heap[e.g]? = some (.cells (irow .i64 ((G.K e j ++ e.row.drop (G.K e j).length).set (G.K e j).length (e.xs.getD j 0))) 3 (0, 0))) : IL G wr wz e (j + 1) := by
  refine ⟨h.turn.but hb hx, fun _ => ?_⟩
  have : G.K e (j + 1) = G.K e j ++ [e.xs.getD j 0] := kl_yes hk
  rw [this, hr, row_step _ _ _ hl]
theorem IL.get (h : IL G wr wx e j) (hok : EntOk wr e) (k : Nat) (hk : j ≤ k) (hx : k < e.xs.length) : e.a = some ⟨e.g, 0, none⟩ ∧ wx.cell? ⟨e.g, k, none⟩ = some (.int .i64 (e.xs.getD k 0)) := by
  have hxn : e.xs ≠ [] := by intro q; rw [q] at hx; simp at hx
  rcases hok with r | ⟨r0, r1, r2, r3, r4, r5⟩
  · exact absurd r.1 hxn
  · refine ⟨r1, ?_⟩
    have hK := G.K_le e j
    rw [cell_of_row _ _ _ _ _ _ (h.row hxn), irow_get _ _ _ (by simp; omega), row_get _ _ _ _ (by omega) hx r5 (by omega)]
end
theorem kv_split (G : Geo) (E : List Ent) (i : Nat) (hi : i < E.length) : (G.done E i ++ E.drop i).map (kvOf G.id) = (G.done E i).map (kvOf G.id) ++ (sk G.id E[i].lock, .slice E[i].a E[i].xs.length E[i].c) :: (E.drop (i + 1)).map (kvOf G.id) := by
  rw [drop_cons hi, List.map_append, List.map_cons]; rfl
theorem keys_apart {G : Geo} {w : World} {E : List Ent} {st pr : Int} {rk : List Int} (h : PState G w E st pr rk) {i : Nat} (hi : i < E.length) : ∀ p ∈ (G.done E i).map (kvOf G.id), p.1 ≠ sk G.id E[i].lock := by
  intro p hp q
  obtain ⟨f, hf, rfl⟩ := List.mem_map.1 hp
  obtain ⟨e, he, rfl, _⟩ := mem_done hf
  have hb1 := h.bd e (List.mem_of_mem_take he)
  have hb2 := h.bd E[i] (List.getElem_mem hi)
  have : e.lock = E[i].lock := sk_inj G.id _ _ hb1.1 hb1.2 hb2.1 hb2.2 q
  have hn := h.keys
  have hsplit : E = E.take i ++ E[i] :: E.drop (i + 1) := by rw [← drop_cons hi, List.take_append_drop]
  rw [hsplit, List.map_append, List.nodup_append] at hn
  exact hn.2.2 e.lock (List.mem_map.2 ⟨e, he, rfl⟩) E[i].lock (List.mem_map.2 ⟨E[i], List.mem_cons_self, rfl⟩) this

theorem rising_pw {xs : List Int} : Rising xs ↔ xs.Pairwise (· < ·) := by
  rw [List.pairwise_iff_getElem]
  constructor
  · intro h i j hi hj hij
    have := h i j hij hj
    simpa [List.getD, hi, hj] using this
  · intro h i j hij hj
    have := h i j (by omega) hj hij
    have hi : i < xs.length := by omega
    simpa [List.getD, hi, hj] using this
theorem filt_rising {G : Geo} {e : Ent} (h : Rising e.xs) : Rising (G.filt e) := by
  rw [rising_pw]
  unfold Geo.filt filt kl
  rw [List.pairwise_map]
  have h1 : (List.range e.xs.length).Pairwise (· < ·) := List.pairwise_lt_range
  have h2 := h1.filter (keep G.nk G.nl G.nr G.il G.sl e.lock e.xs)
  refine h2.imp_of_mem fun {a b} ha hb hab => ?_
  have hb' : b < e.xs.length := by have := (List.mem_filter.1 hb).1; simpa using this
  exact h a b hab hb'
theorem filt_le (G : Geo) (e : Ent) : (G.filt e).length ≤ e.xs.length := kl_le ..
theorem sum_done (G : Geo) (E : List Ent) : ((G.done E E.length).map fun e => e.xs.length).sum ≤ (E.map fun e => e.xs.length).sum := by
  unfold Geo.done
  rw [List.take_length]
  induction E with
  | nil => simp
  | cons e E ih =>
    have := filt_le G e
    by_cases c : filt G.nk G.nl G.nr G.il G.sl e = []
    · have hp : G.proc e = none := by unfold Geo.proc proc; rw [if_pos c]
      simp [List.filterMap_cons, hp]; omega
    · have hp : G.proc e = some (G.kept e) := by unfold Geo.proc proc; rw [if_neg c]; rfl
      simp [List.filterMap_cons, hp, Geo.kept]; omega
theorem done_locks (G : Geo) (E : List Ent) : ((G.done E E.length).map (·.lock)).Sublist (E.map (·.lock)) := by
  unfold Geo.done
  rw [List.take_length]
  induction E with
  | nil => simp
  | cons e E ih =>
    by_cases c : filt G.nk G.nl G.nr G.il G.sl e = []
    · have hp : G.proc e = none := by unfold Geo.proc proc; rw [if_pos c]
      simp only [List.filterMap_cons, hp, List.map_cons]; exact ih.cons _
    · have hp : G.proc e = some (G.kept e) := by unfold Geo.proc proc; rw [if_neg c]; rfl
      simp only [List.filterMap_cons, hp, List.map_cons]; exact ih.cons_cons _
theorem apart_done {G : Geo} {E : List Ent} (ap : Apart G E) : Apart G (G.done E E.length) := by
  refine { ap with es := ?_, ee := ?_ }
  · intro f hf hx
    exact entry_of ap (List.mem_append.2 (.inl hf)) hx
  · have h := ap.ee
    unfold Geo.done
    rw [List.take_length]
    refine List.Pairwise.filterMap _ ?_ h
    intro a a' hq b hb b' hb'
    have e1 : ∀ (x y : Ent), G.proc x = some y → y = G.kept x ∧ G.filt x ≠ [] := by
      intro x y hxy
      unfold Geo.proc proc at hxy
      by_cases c : filt G.nk G.nl G.nr G.il G.sl x = []
      · rw [if_pos c] at hxy; cases hxy
      · rw [if_neg c] at hxy; exact ⟨by simpa [Geo.kept, Geo.filt] using hxy.symm, c⟩
    obtain ⟨rfl, n1⟩ := e1 _ _ hb
    obtain ⟨rfl, n2⟩ := e1 _ _ hb'
    intro _ _
    exact hq (fun q => n1 (filt_nil q)) fun q => n2 (filt_nil q)
/-- The state behind the last lock. -/
theorem PL.finish {G : Geo} {w wr wq : World} {E : List Ent} {st pr : Int} {rk : List Int} (h : PState G w E st pr rk) (hl : PL G w E rk pr E.length wr)
    (hb : But wr wq G.bL) (hL : wq.heap[G.bL]? = some (lobj G (G.done E E.length).length (sumL (G.done E E.length)) (sumL (G.done E E.length)))) :
    Below G.base w wq ∧ (∀ b, G.stat b → wq.heap[b]? = w.heap[b]?) ∧ ∃ rk', PState G wq (G.done E E.length) (sumL (G.done E E.length)) (sumL (G.done E E.length)) rk' := by
  have ap := h.ap
  have hbel : Below G.base w wq := hl.bel.trans (hb.below ap.bl)
  refine ⟨hbel, fun b hbs => (hb.block b fun q => ap.ls (q ▸ hbs)).trans (hl.st b hbs), (G.done E E.length).map (·.lock) ++ rk.drop (G.done E E.length).length, ?_⟩
  have hM := hl.hM
  have hE := hl.hE
  rw [List.drop_length, List.append_nil] at hM hE
  have hle := done_le G E E.length
  refine ⟨h.stat.same (fun b hbs => (hb.block b fun q => ap.ls (q ▸ hbs)).trans (hl.st b hbs)) hbel.size, hL, hM.same (hb.block _ ap.lm.symm), fun e he => (hE e he).keep fun hx => hb.block _ (entry_of ap (List.mem_append.2 (.inl he)) hx).2.1, ?_, apart_done ap, ?_, ?_, ?_, ?_, ?_⟩
  · intro hn
    have hn' : E ≠ [] := by rintro rfl; exact hn rfl
    obtain ⟨k1, k2, k3, k4, k5⟩ := h.hK hn'
    refine ⟨k1, by rw [hb.block _ ap.lk.symm]; exact hl.hK hn', by simp; omega, by omega, ?_⟩
    rw [List.take_append_of_le_length (by simp)]; exact List.take_of_length_le (by simp)
  · exact (done_locks G E).nodup h.keys
  · intro f hf
    obtain ⟨e, he, rfl, _⟩ := mem_done hf
    exact h.bd e (List.mem_of_mem_take he)
  · intro f hf
    obtain ⟨e, he, rfl, _⟩ := mem_done hf
    exact filt_rising (h.up e (List.mem_of_mem_take he))
  · exact Nat.le_trans (sum_done G E) h.sm
  · have := h.ln; omega
end Go.Proofs.Qxb6616202a.Prune
