import Derived.Test.Qxb6616202aPStD
namespace Go.Proofs.Qxb6616202a.Prune
open Go.RowKit Go.Proofs.Qxb6616202a.Kit Go.Proofs.Qxb6616202a.Flow
set_option linter.unusedVariables false
set_option linter.unusedSimpArgs false

/-! The plain law: what is kept once is kept again. -/
theorem getD_map_lt (I : List Nat) (f : Nat → Int) (j : Nat) (hj : j < I.length) : (I.map f).getD j 0 = f I[j] := by
  simp [List.getD, hj]
theorem keep_again {nk nl nr il sl : List Int} {x : Int} {xs : List Int} (hx : Rising xs) (j : Nat) (hj : j < (kl nk nl nr il sl x xs xs.length).length) :
    keep nk nl nr il sl x (kl nk nl nr il sl x xs xs.length) j = true := by
  obtain ⟨I, hI⟩ : ∃ I, (List.range xs.length).filter (keep nk nl nr il sl x xs) = I := ⟨_, rfl⟩
  have hk : kl nk nl nr il sl x xs xs.length = I.map fun i => xs.getD i 0 := by unfold kl; rw [hI]
  have hp : I.Pairwise (· < ·) := by rw [← hI]; exact List.pairwise_lt_range.filter _
  have hm : ∀ i ∈ I, i < xs.length ∧ keep nk nl nr il sl x xs i = true := by
    intro i hi
    rw [← hI, List.mem_filter] at hi
    exact ⟨by simpa using hi.1, hi.2⟩
  rw [hk] at hj ⊢
  have hj' : j < I.length := by simpa using hj
  obtain ⟨hn, hkeep⟩ := hm I[j] (List.getElem_mem hj')
  unfold keep at hkeep ⊢
  rw [getD_map_lt I _ j hj']
  simp only [Bool.and_eq_true, Bool.or_eq_true, decide_eq_true_eq] at hkeep ⊢
  obtain ⟨⟨h1, h2⟩, h3⟩ := hkeep
  refine ⟨⟨h1, ?_⟩, h3⟩
  by_cases c : j + 1 = (I.map fun i => xs.getD i 0).length
  · exact .inl c
  · right
    have hj2 : j + 1 < I.length := by simp at c hj; omega
    rw [getD_map_lt I _ (j + 1) hj2]
    have hlt : I[j] < I[j + 1] := (List.pairwise_iff_getElem.1 hp) j (j + 1) hj' hj2 (by omega)
    have hn2 := (hm I[j + 1] (List.getElem_mem hj2)).1
    rcases h2 with h2 | h2
    · omega
    · by_cases e : I[j] + 1 = I[j + 1]
      · rw [e] at h2; exact h2
      · have := hx (I[j] + 1) I[j + 1] (by omega) hn2
        omega
theorem kl_all {nk nl nr il sl : List Int} {x : Int} {xs : List Int} (h : ∀ j, j < xs.length → keep nk nl nr il sl x xs j = true) : kl nk nl nr il sl x xs xs.length = xs := by
  unfold kl
  rw [List.filter_eq_self.2 (fun a ha => h a (by simpa using ha))]
  apply List.ext_getElem
  · simp
  · intro i h1 h2
    simp [List.getD, h2]
theorem filt_kept {G : Geo} {e : Ent} (hx : Rising e.xs) : G.filt (G.kept e) = G.filt e := by
  have h := kl_all (nk := G.nk) (nl := G.nl) (nr := G.nr) (il := G.il) (sl := G.sl) (x := e.lock) (xs := kl G.nk G.nl G.nr G.il G.sl e.lock e.xs e.xs.length) (fun j hj => keep_again hx j hj)
  exact h
theorem kept_kept {G : Geo} {e : Ent} (hx : Rising e.xs) : G.kept (G.kept e) = G.kept e := by
  have h := filt_kept (G := G) hx
  have h1 : G.kept (G.kept e) = { G.kept e with xs := G.filt (G.kept e), row := G.filt (G.kept e) ++ (G.kept e).row.drop (G.filt (G.kept e)).length } := rfl
  rw [h1, h]
  simp [Geo.kept]
theorem proc_some {G : Geo} {e : Ent} (hf : G.filt e ≠ []) : G.proc e = some (G.kept e) := by
  unfold Geo.proc proc; rw [if_neg (show ¬ filt G.nk G.nl G.nr G.il G.sl e = [] from hf)]; rfl
theorem proc_none {G : Geo} {e : Ent} (hf : G.filt e = []) : G.proc e = none := by
  unfold Geo.proc proc; rw [if_pos (show filt G.nk G.nl G.nr G.il G.sl e = [] from hf)]
theorem done_all (G : Geo) (E : List Ent) : G.done E E.length = E.filterMap G.proc := by unfold Geo.done; rw [List.take_length]
theorem fm_congr (f g : Ent → Option Ent) : ∀ (L : List Ent), (∀ e ∈ L, f e = g e) → L.filterMap f = L.filterMap g := by
  intro L
  induction L with
  | nil => intro _; rfl
  | cons e L ih =>
    intro h
    rw [List.filterMap_cons, List.filterMap_cons, h e List.mem_cons_self, ih fun x hx => h x (List.mem_cons_of_mem _ hx)]
/-- Pruning what was pruned changes nothing. -/
theorem done_done (G : Geo) (E : List Ent) (h : ∀ e ∈ E, Rising e.xs) : G.done (G.done E E.length) (G.done E E.length).length = G.done E E.length := by
  rw [done_all, done_all, List.filterMap_filterMap]
  refine fm_congr _ _ E fun e he => ?_
  by_cases c : G.filt e = []
  · rw [proc_none c]; rfl
  · rw [proc_some c]
    show G.proc (G.kept e) = some (G.kept e)
    rw [proc_some (by rw [filt_kept (h e he)]; exact c), kept_kept (h e he)]

/-! The entries that are made of the arguments. -/
def Trues (bs : List Bool) : Nat := bs.countP id
theorem kl_count (nk nl nr il sl : List Int) (x : Int) (xs : List Int) (n : Nat) : (kl nk nl nr il sl x xs n).length = Trues (flagsOf nk nl nr il sl x xs n) := by
  unfold kl flagsOf Trues
  rw [List.length_map, List.countP_map, List.countP_eq_length_filter]
  rfl
def DoneSum (G : Geo) (E : List Ent) : Nat := ((E.filterMap G.proc).map fun e => e.xs.length).sum
theorem doneSum_eq (G : Geo) (E : List Ent) : DoneSum G E = (E.map fun e => (G.filt e).length).sum := by
  unfold DoneSum
  induction E with
  | nil => rfl
  | cons e E ih =>
    by_cases c : G.filt e = []
    · simp [List.filterMap_cons, proc_none c, ih, c]
    · simp [List.filterMap_cons, proc_some c, ih, Geo.kept]
structure FromArgs (E : List Ent) (lk : List Int) (Ls : List (List Int)) : Prop where
  len : E.length = lk.length
  lock : ∀ i (h : i < E.length), E[i].lock = lk.getD i 0
  xs : ∀ i (h : i < E.length), E[i].xs = Ls.getD i []
theorem sum_range {E : List Ent} (f : Ent → Nat) (g : Nat → Nat) : ∀ n, (h : n ≤ E.length) → (∀ i (hi : i < E.length), f E[i] = g i) → ((E.take n).map f).sum = ((List.range n).map g).sum := by
  intro n
  induction n with
  | zero => intro _ _; rfl
  | succ n ih =>
    intro h hg
    rw [List.range_succ, List.map_append, List.sum_append, List.take_succ_eq_append_getElem (by omega), List.map_append, List.sum_append, ih (by omega) hg]
    simp [hg n (by omega)]
theorem trues_done (nk nl nr il sl lk : List Int) (Ls : List (List Int)) (n : Nat) : Trues (done nk nl nr il sl lk Ls n) = ((List.range n).map fun k => (kl nk nl nr il sl (lk.getD k 0) (Ls.getD k []) (Ls.getD k []).length).length).sum := by
  induction n with
  | zero => rfl
  | succ n ih =>
    rw [done_succ, List.range_succ, List.map_append, List.sum_append, ← ih]
    simp only [Trues, List.countP_append, List.map_cons, List.map_nil, List.sum_cons, List.sum_nil, Nat.add_zero]
    have := kl_count nk nl nr il sl (lk.getD n 0) (Ls.getD n []) (Ls.getD n []).length
    unfold Trues at this
    omega
theorem sum_is_trues (G : Geo) (E : List Ent) (lk : List Int) (Ls : List (List Int)) (h : FromArgs E lk Ls) : sumL (G.done E E.length) = (Trues (done G.nk G.nl G.nr G.il G.sl lk Ls lk.length) : Nat) := by
  have h1 : sumL (G.done E E.length) = (DoneSum G E : Nat) := by rw [done_all]; rfl
  rw [h1, doneSum_eq, trues_done]
  have := sum_range (E := E) (fun e => (G.filt e).length) (fun k => (kl G.nk G.nl G.nr G.il G.sl (lk.getD k 0) (Ls.getD k []) (Ls.getD k []).length).length) E.length (Nat.le_refl _) (fun i hi => by
    unfold Geo.filt filt; rw [h.lock i hi, h.xs i hi])
  rw [List.take_length] at this
  rw [this, h.len]

/-! What the map says of a lock. -/
def snapOf (G : Geo) (E : List Ent) (i : Nat) : List Int := (E.take i).flatMap G.filt
theorem snap_succ {G : Geo} {E : List Ent} {i : Nat} (h : i < E.length) : snapOf G E (i + 1) = snapOf G E i ++ G.filt E[i] := by
  unfold snapOf; rw [List.take_succ_eq_append_getElem h, List.flatMap_append]; simp
theorem snap_le (G : Geo) (E : List Ent) (i : Nat) : (snapOf G E i).length ≤ (E.map fun e => e.xs.length).sum := by
  unfold snapOf
  rw [List.length_flatMap]
  have h1 : ∀ (L : List Ent), (L.map fun a => (G.filt a).length).sum ≤ (L.map fun e => e.xs.length).sum := by
    intro L
    induction L with
    | nil => simp
    | cons e L ih => have := filt_le G e; simp; omega
  have h2 : ((E.take i).map fun e => e.xs.length).sum ≤ (E.map fun e => e.xs.length).sum := by
    conv => rhs; rw [← List.take_append_drop i E, List.map_append, List.sum_append]
    omega
  exact Nat.le_trans (h1 _) h2
theorem split_at {E : List Ent} {i : Nat} (hi : i < E.length) : E = E.take i ++ E[i] :: E.drop (i + 1) := by rw [← drop_cons hi, List.take_append_drop]
theorem done_split {G : Geo} {E : List Ent} {i : Nat} (hi : i < E.length) : G.done E E.length = (E.take i).filterMap G.proc ++ ((G.proc E[i]).toList ++ (E.drop (i + 1)).filterMap G.proc) := by
  rw [done_all]
  conv => lhs; rw [split_at hi]
  rw [List.filterMap_append, List.filterMap_cons]
  cases G.proc E[i] <;> rfl
theorem mem_fm {G : Geo} {L : List Ent} {f : Ent} (h : f ∈ L.filterMap G.proc) : ∃ e ∈ L, f.lock = e.lock := by
  rw [List.mem_filterMap] at h
  obtain ⟨e, he, hp⟩ := h
  refine ⟨e, he, ?_⟩
  by_cases c : G.filt e = []
  · rw [proc_none c] at hp; cases hp
  · rw [proc_some c] at hp; cases hp; rfl
theorem keys_ne {G : Geo} {E : List Ent} (hk : (E.map (·.lock)).Nodup) (bd : ∀ e ∈ E, -2147483648 ≤ e.lock ∧ e.lock ≤ 2147483647) {i : Nat} (hi : i < E.length) {L : List Ent} (hL : ∀ e ∈ L, e ∈ E.take i ∨ e ∈ E.drop (i + 1)) :
    ∀ p ∈ (L.filterMap G.proc).map (kvOf G.id), p.1 ≠ sk G.id E[i].lock := by
  intro p hp q
  obtain ⟨f, hf, rfl⟩ := List.mem_map.1 hp
  obtain ⟨e, he, hl⟩ := mem_fm hf
  have hmem : e ∈ E := by
    rcases hL e he with h | h
    · exact List.mem_of_mem_take h
    · exact List.mem_of_mem_drop h
  have hb1 := bd e hmem
  have hb2 := bd E[i] (List.getElem_mem hi)
  have q' : sk G.id e.lock = sk G.id E[i].lock := by rw [← hl]; exact q
  have : e.lock = E[i].lock := sk_inj G.id _ _ hb1.1 hb1.2 hb2.1 hb2.2 q'
  have hn := hk
  rw [split_at hi, List.map_append, List.nodup_append, List.map_cons, List.nodup_cons] at hn
  rcases hL e he with h | h
  · exact hn.2.2 e.lock (List.mem_map.2 ⟨e, h, rfl⟩) E[i].lock List.mem_cons_self this
  · exact hn.2.1.1 (this ▸ List.mem_map.2 ⟨e, h, rfl⟩)
theorem look_no {G : Geo} {E : List Ent} (hk : (E.map (·.lock)).Nodup) (bd : ∀ e ∈ E, -2147483648 ≤ e.lock ∧ e.lock ≤ 2147483647) {i : Nat} (hi : i < E.length) (hf : G.filt E[i] = []) :
    ∀ p ∈ (G.done E E.length).map (kvOf G.id), p.1 ≠ sk G.id E[i].lock := by
  have e : G.done E E.length = (E.take i ++ E.drop (i + 1)).filterMap G.proc := by rw [done_split hi, proc_none hf, List.filterMap_append]; rfl
  rw [e]
  exact keys_ne hk bd hi fun e he => List.mem_append.1 he
theorem look_yes {G : Geo} {E : List Ent} (hk : (E.map (·.lock)).Nodup) (bd : ∀ e ∈ E, -2147483648 ≤ e.lock ∧ e.lock ≤ 2147483647) {i : Nat} (hi : i < E.length) (hf : G.filt E[i] ≠ []) :
    ∃ A B, (G.done E E.length).map (kvOf G.id) = A ++ (sk G.id E[i].lock, .slice E[i].a (G.filt E[i]).length E[i].c) :: B ∧ (∀ p ∈ A, p.1 ≠ sk G.id E[i].lock) ∧ G.kept E[i] ∈ G.done E E.length := by
  refine ⟨((E.take i).filterMap G.proc).map (kvOf G.id), ((E.drop (i + 1)).filterMap G.proc).map (kvOf G.id), ?_, keys_ne hk bd hi fun e he => .inl he, ?_⟩
  · rw [done_split hi, proc_some hf]; simp [kept_kv]
  · rw [done_split hi, proc_some hf]; simp
end Go.Proofs.Qxb6616202a.Prune
