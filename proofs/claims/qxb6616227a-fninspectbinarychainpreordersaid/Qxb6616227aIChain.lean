import Derived.Test.Qxb6616227aIRow
import Derived.ControlIn
import Derived.StillTailTactics
namespace Go.Proofs.Qxb6616227a.Ins
open Go.RowKit Go.Shelf
set_option linter.unusedVariables false
set_option linter.unusedSimpArgs false
attribute [local go_sem] Oper.semAt_some
attribute [local irreducible] wpStill

/-- What stands around inspectChain's loops: the row of nodes, what has been written down, the box of f. -/
structure Env (B0 bo bs base bf : Nat) (skip : Int) (Wc : World) (g cap : Nat) (ns : List Nat) (cur : List Po) (v : Value) (wr : World) : Prop where
  row : PR wr g cap ns
  out : Out bo bs base skip cur v wr
  bel : Below B0 Wc wr
  gbo : g ≠ bo
  gown : some g ≠ v.ownBlock
  gB : B0 ≤ g
  gbs : g ≠ bs
  fc : wr.cell? ⟨bf, 0, none⟩ = some (.func (.func 13) #[] #[.pointer (some ⟨bo, 0, none⟩), .pointer (some ⟨bs, 0, none⟩)])
  fbo : bf ≠ bo
  fown : some bf ≠ v.ownBlock
  fg : bf ≠ g
  oB : B0 ≤ bo
  bB : B0 ≤ base
section
variable {B0 bo bs base bf : Nat} {skip : Int} {Wc : World} {g cap : Nat} {ns : List Nat} {cur : List Po} {v : Value} {wr : World}
theorem Env.step (h : Env B0 bo bs base bf skip Wc g cap ns cur v wr) {qs : List Po} {v' : Value} {w' : World} (s : Step bo bs base skip qs v wr v' w') : Env B0 bo bs base bf skip Wc g cap ns qs v' w' := by
  have hlt := h.row.lt
  have hf := cell_lt h.fc
  have own' : ∀ k, k < wr.heap.size → some k ≠ v.ownBlock → some k ≠ v'.ownBlock := by
    intro k hk hne q
    rcases s.fresh with e | e
    · exact hne (q.trans e)
    · have := e k q.symm; omega
  refine ⟨h.row.same (s.kept.block g hlt h.gbo h.gown) s.kept.size, s.out, ?_, h.gbo, own' g hlt h.gown, h.gB, h.gbs, ?_, h.fbo, own' bf hf h.fown, h.fg, h.oB, h.bB⟩
  · have hsz : B0 ≤ wr.heap.size := by have := h.gB; omega
    refine h.bel.trans ⟨s.kept.os, s.kept.tape, s.kept.output, s.kept.size, fun k hk => s.kept.block k (by omega) (by have := h.oB; omega) (far_own h.out.own (.inl (by have := h.bB; omega)))⟩
  · exact (World.cell?_of_block (a := ⟨bf, 0, none⟩) (s.kept.block bf hf h.fbo h.fown)).trans h.fc
theorem Out.alloc (h : Out bo bs base skip cur v wr) (o : Obj) : Out bo bs base skip cur v (wr.alloc o) :=
  ⟨al_heap h.ho, al_cell h.hs o, h.own.alloc o, h.lo, h.ls, h.ne, by have := h.sz; simp; omega⟩
theorem Env.alloc (h : Env B0 bo bs base bf skip Wc g cap ns cur v wr) (o : Obj) : Env B0 bo bs base bf skip Wc g cap ns cur v (wr.alloc o) := by
  have hlt := h.row.lt
  exact ⟨h.row.same (Below.heap_alloc _ _ _ hlt) (by simp), h.out.alloc o, h.bel.alloc (by have := h.gB; omega) o, h.gbo, h.gown, h.gB, h.gbs, al_cell h.fc o, h.fbo, h.fown, h.fg, h.oB, h.bB⟩
theorem Env.drew (h : Env B0 bo bs base bf skip Wc g cap ns cur v wr) : Env B0 bo bs base bf skip Wc g cap ns cur v wr.drew :=
  ⟨h.row.same rfl (Nat.le_refl _), ⟨h.out.ho, h.out.hs, h.out.own, h.out.lo, h.out.ls, h.out.ne, h.out.sz⟩, h.bel.drew, h.gbo, h.gown, h.gB, h.gbs, h.fc, h.fbo, h.fown, h.fg, h.oB, h.bB⟩
theorem Env.push (h : Env B0 bo bs base bf skip Wc g cap ns cur v wr) {b g' cap' : Nat} {w' : World} (p : Pushed wr g ns b g' cap' w') : Env B0 bo bs base bf skip Wc g' cap' (ns ++ [b]) cur v w' := by
  have hlt := h.row.lt
  have hf := cell_lt h.fc
  have hlo := h.out.lo
  have hsz := h.out.sz
  have hls := h.out.ls
  have hB := h.gB
  have hownlt : ∀ k, v.ownBlock = some k → k < wr.heap.size := fun k hk => (h.out.own.lt k hk).2
  have gn : ∀ k, k < wr.heap.size → k ≠ g → k ≠ g' := by
    intro k hk hne q
    rcases p.new with e | e
    · exact hne (q.trans e)
    · omega
  have hobs : bs ≠ g := fun q => h.gbs q.symm
  have hgr : wr.grownBy w' (some g) := ⟨p.os, p.tape, p.output, p.size, fun k hk hne => p.block k hk (fun q => hne (by rw [q]))⟩
  refine ⟨p.row, ⟨(p.block bo (by omega) (fun q => h.gbo q.symm)).trans h.out.ho, ?_, ?_, h.out.lo, h.out.ls, h.out.ne, Nat.le_trans hsz p.size⟩, ?_, ?_, ?_, ?_, ?_, ?_, h.fbo, h.fown, ?_, h.oB, h.bB⟩
  · exact (World.cell?_of_block (a := ⟨bs, 0, none⟩) (p.block bs (by omega) hobs)).trans h.out.hs
  · exact h.out.own.kept hgr (.inr fun q => h.gown q.symm)
  · refine h.bel.trans ⟨p.os, p.tape, p.output, p.size, fun k hk => p.block k (by omega) (by omega)⟩
  · exact fun q => gn bo (by omega) (fun q => h.gbo q.symm) q.symm
  · intro q
    rcases p.new with e | e
    · exact h.gown (e ▸ q)
    · have := hownlt g' q.symm; omega
  · rcases p.new with e | e <;> omega
  · exact fun q => gn bs (by omega) hobs q.symm
  · exact (World.cell?_of_block (a := ⟨bf, 0, none⟩) (p.block bf hf h.fg)).trans h.fc
  · exact gn bf hf h.fg
end
theorem list_ptr {ops : Array Oper} {rest : List Oper} {o : Oper} {a : Act} {w : World} {Q : Exit → Act → World → Prop} (hg : o.guard = none) (s x : Operand) (hop : o.op = Op.call { callee := Callee.builtin Builtin.append, args := #[s, x], argTypes := #[124, 124] })
    (g cap : Nat) (ns : List Nat) (m : Nat) (hm : ns.length = m) (h : PR w g cap ns) (hs : a.eval s = .slice (some ⟨g, 0, none⟩) m cap) (g0 b : Nat) (hx : a.eval x = .slice (some ⟨g0, 0, none⟩) 1 1) (hg0 : w.heap[g0]? = some (.cells #[.pointer (some ⟨b, 0, none⟩)] 28 (0, 0))) (hn : ns.length ≤ 1000000)
    (hK : ∀ g' cap' w', Pushed w g ns b g' cap' w' → wpList Try.prog ops Q rest (a.put o.dst (.slice (some ⟨g', 0, none⟩) (m + 1) cap')) w') : wpList Try.prog ops Q (o :: rest) a w := by
  subst hm
  obtain ⟨g', cap', w', hrun, hp⟩ := run_ptr w o.type g cap ns h g0 b hg0 hn
  refine wpList_plain hg fun K hK' => ?_
  unfold Oper.wp
  simp only [execOp, hop, resolve, invoke, builtin, Sem.run_bind, Sem.run_pure, Result.andThen_ok, List.map_toArray, List.map_cons, List.map_nil, hs, hx, hrun]
  exact hK' _ _ (hK g' cap' w' hp)
theorem still_yes {ops : Array Oper} {w : World} {Q : Act → Prop} {a : Act} {o : Oper} {rest : List Oper} (hw : Region.wanted o (yielded ops a.tmps) = true) (h : ∀ K : Act → Prop, (∀ a, wpStill Try.prog ops w Q rest a → K a) → o.still Try.prog a w K) : wpStill Try.prog ops w Q (o :: rest) a := by
  refine wpStill_step fun K hK => ?_
  rw [if_pos hw]; exact h K hK
theorem still_no {ops : Array Oper} {w : World} {Q : Act → Prop} {a : Act} {o : Oper} {rest : List Oper} (hw : Region.wanted o (yielded ops a.tmps) = false) (h : ∀ K : Act → Prop, (∀ a, wpStill Try.prog ops w Q rest a → K a) → K (a.put o.dst undef)) : wpStill Try.prog ops w Q (o :: rest) a := by
  refine wpStill_step fun K hK => ?_
  rw [if_neg (by rw [hw]; exact Bool.false_ne_true)]; exact h K hK
theorem region_still_tail {id : Nat} {Q : Exit → Act → World → Prop} {a : Act} {w : World} {l : List Oper} (n : Nat) (hm : Try.prog.follows .mixedOrders = true) (hB : Region.lexTailB .any l.toArray n = true)
    (h : wpStill Try.prog l.toArray w.drew (fun a' => wpList Try.prog l.toArray Q (l.drop n) a' w.drew) (l.take n) a) : (Code.region id l.toArray true).wp Try.prog Q a w := wp_region_still_tail n hm hB h
theorem froz_row {w : World} {b i : Nat} {c : Array Value} {t : TypeId} (h : w.heap[b]? = some (.cells c t (0, 0))) : w.frozen? ⟨b, i, none⟩ = false := by
  simp [World.frozen?, h]
def fObj (bo bs : Nat) : Obj := .cells #[.func (.func 13) #[] #[.pointer (some ⟨bo, 0, none⟩), .pointer (some ⟨bs, 0, none⟩)]] 49
def bufObj : Obj := .cells #[.pointer none, .pointer none, .pointer none, .pointer none, .pointer none, .pointer none, .pointer none, .pointer none] 123
theorem Env.start {B0 bo bs base : Nat} {skip : Int} {Wc w : World} {ps : List Po} {v : Value} (h : Out bo bs base skip ps v w) (hb : Below B0 Wc w) (oB : B0 ≤ bo) (bB : B0 ≤ base) (o : Obj) :
    Env B0 bo bs base w.heap.size skip Wc (w.heap.size + 1) 8 [] ps v (((w.alloc (fObj bo bs)).alloc bufObj).alloc o) := by
  have hsz := h.sz
  have hlo := h.lo
  have hls := h.ls
  have hbuf : (((w.alloc (fObj bo bs)).alloc bufObj).alloc o).heap[w.heap.size + 1]? = some (.cells #[.pointer none, .pointer none, .pointer none, .pointer none, .pointer none, .pointer none, .pointer none, .pointer none] 123 (0, 0)) := al_heap (new2 w (fObj bo bs) bufObj)
  refine ⟨⟨by simp, fun j hj => by simp at hj, fun j hj => ?_, obj_lt hbuf⟩, ((h.alloc _).alloc _).alloc _, ((hb.alloc (by omega) _).alloc (by simp; omega) _).alloc (by simp; omega) _, by omega, far_own h.own (.inr (by omega)), by omega, by omega, ?_, by omega, far_own h.own (.inr (Nat.le_refl _)), by omega, oB, bB⟩
  · refine ⟨?_, froz_row hbuf⟩
    rw [cell_of_row _ _ _ _ _ _ hbuf]
    have : j = 0 ∨ j = 1 ∨ j = 2 ∨ j = 3 ∨ j = 4 ∨ j = 5 ∨ j = 6 ∨ j = 7 := by omega
    rcases this with rfl | rfl | rfl | rfl | rfl | rfl | rfl | rfl <;> rfl
  · refine al_cell (al_cell ?_ _) _
    rw [cell_of_row _ _ _ _ _ _ (heap_alloc_new w (fObj bo bs))]; rfl
theorem cell_is_cells {W : World} {b o : Nat} {v : Value} (h : W.cell? ⟨b, o, none⟩ = some v) : ∃ c t f, W.heap[b]? = some (.cells c t f) := by
  simp only [World.cell?] at h
  cases hh : W.heap[b]? with
  | none => simp [hh] at h
  | some x => cases x <;> simp [hh] at h <;> exact ⟨_, _, _, rfl⟩
theorem not_row {W : World} {k : Nat} {row : Option Nat} (hr : ∀ r, row = some r → ∃ o : Obj, W.heap[r]? = some o ∧ o.isCells = false) (h : ∃ c t f, W.heap[k]? = some (.cells c t f)) : some k ≠ row := by
  intro q
  obtain ⟨o, ho, hc⟩ := hr k q.symm
  obtain ⟨c, t, f, hk⟩ := h
  rw [hk] at ho
  cases ho
  cases hc
theorem own_cells {W : World} {base n : Nat} {v : Value} {xs : List Value} (h : W.ownsRow base 25 2 v n xs) {k : Nat} (hk : v.ownBlock = some k) : ∃ c t f, W.heap[k]? = some (.cells c t f) := by
  obtain ⟨_, h | ⟨g, cap, cur, rfl, _, hh, _⟩⟩ := h
  · obtain ⟨rfl, _⟩ := h; cases hk
  · have : g = k := by simpa [Value.ownBlock] using hk
    subst this
    exact ⟨_, _, _, hh⟩
section
variable {B0 bo bs base bf : Nat} {skip : Int} {Wc : World} {g cap : Nat} {ns : List Nat} {cur : List Po} {v : Value} {W W' : World} {row : Option Nat}
theorem Env.grown (h : Env B0 bo bs base bf skip Wc g cap ns cur v W) (hn : 1 ≤ ns.length) (hg : W.grownBy W' row) (hr : ∀ r, row = some r → ∃ o : Obj, W.heap[r]? = some o ∧ o.isCells = false) (hB : ∀ r, row = some r → B0 ≤ r) : Env B0 bo bs base bf skip Wc g cap ns cur v W' := by
  have hlo := h.out.lo
  have hsz := h.out.sz
  have hls := h.out.ls
  have kg := hg.block g h.row.lt (not_row hr (cell_is_cells (h.row.cells 0 hn)))
  have kbo := hg.block bo (by omega) (not_row hr ⟨_, _, _, h.out.ho⟩)
  have kbs := hg.block bs (by omega) (not_row hr (cell_is_cells h.out.hs))
  have kbf := hg.block bf (cell_lt h.fc) (not_row hr (cell_is_cells h.fc))
  have hgB := h.gB
  have hglt := h.row.lt
  refine ⟨h.row.same kg hg.size, ⟨kbo.trans h.out.ho, (World.cell?_of_block (a := ⟨bs, 0, none⟩) kbs).trans h.out.hs, h.out.own.kept hg ?_, h.out.lo, h.out.ls, h.out.ne, Nat.le_trans hsz hg.size⟩, ?_, h.gbo, h.gown, h.gB, h.gbs, (World.cell?_of_block (a := ⟨bf, 0, none⟩) kbf).trans h.fc, h.fbo, h.fown, h.fg, h.oB, h.bB⟩
  · cases hk : v.ownBlock with
    | none => exact .inl rfl
    | some k => right; exact not_row hr (own_cells h.out.own hk)
  · refine h.bel.trans ⟨hg.os, hg.tape, hg.output, hg.size, fun k hk => hg.block k (by omega) (fun q => ?_)⟩
    have := hB k q.symm
    omega
end
theorem keeps_of {bo bs base : Nat} {skip : Int} {cur qs : List Po} {v v' : Value} {W W' : World} (h : Out bo bs base skip cur v W) (s : Step bo bs base skip qs v W v' W') : KeepsOthers W W' := by
  refine ⟨s.kept.size, fun k o hk ho => ?_⟩
  have hlt := obj_lt hk
  rw [s.kept.block k hlt ?_ ?_]
  · exact hk
  · rintro rfl
    rw [h.ho] at hk; cases hk; cases ho
  · intro q
    obtain ⟨c, t, f, hc⟩ := own_cells h.own q.symm
    rw [hc] at hk; cases hk; cases ho
theorem back_any (a : Option Addr) (len cap : Nat) (w : World) : Calls Try.prog 15 #[.slice a len cap] w fun e w' => e = .returned (.func (.func 16) #[] #[.pointer (some ⟨w.heap.size, 0, none⟩)]) ∧ w' = w.alloc (.cells #[.slice a len cap] 124) := by
  go_enter Try.func15, Try.ntmps15
  go_wp2_with fail
  go_ret
  exact ⟨rfl, rfl⟩
/-- The nodes from n - 1 down to n - m. -/
def nodes (N : Nat → Nat) (n m : Nat) : List Nat := (List.range m).map fun j => N (n - 1 - j)
theorem nodes_length (N : Nat → Nat) (n m : Nat) : (nodes N n m).length = m := by simp [nodes]
theorem nodes_succ (N : Nat → Nat) (n m : Nat) : nodes N n (m + 1) = nodes N n m ++ [N (n - 1 - m)] := by simp [nodes, List.range_succ]
theorem nodes_get (N : Nat → Nat) (n m j : Nat) (h : j < m) : (nodes N n m).getD j 0 = N (n - 1 - j) := by simp [nodes, List.getD_eq_getElem?_getD, h]
def yOf (ks : List Lk) (n : Nat) {m : Nat} (x : Ix m) : Po := (ks.getD (n - 1 - x.1) lk0).y
/-- Between two names on the way up. -/
def Up (B0 bo bs base bf : Nat) (skip : Int) (Wc : World) (g cap : Nat) (N : Nat → Nat) (ks : List Lk) (n m Bs : Nat) (cur : List Po) (pre : List (Ix m)) (W : World) : Prop :=
  ∃ v, Env B0 bo bs base bf skip Wc g cap (nodes N n m) (cur ++ pre.map (yOf ks n)) v W ∧ some Bs ≠ v.ownBlock ∧ Bs ≠ bo ∧ Bs < W.heap.size ∧ pre.length ≤ m
theorem up_step {B0 bo bs base bf : Nat} {skip : Int} {Wc : World} {g cap : Nat} {N : Nat → Nat} {ks : List Lk} {n m Bs : Nat} {cur : List Po} {pre : List (Ix m)} {W W3 : World} {v2 v3 : Value} (x : Ix m)
    (h : Env B0 bo bs base bf skip Wc g cap (nodes N n m) (cur ++ pre.map (yOf ks n)) v2 W) (u1 : some Bs ≠ v2.ownBlock) (u2 : Bs ≠ bo) (u3 : Bs < W.heap.size) (hlen : pre.length < m)
    (hst : Step bo bs base skip (cur ++ pre.map (yOf ks n) ++ [yOf ks n x]) v2 W.drew v3 W3) : KeepsOthers W W3 ∧ Kp Bs g W W3 ∧ Up B0 bo bs base bf skip Wc g cap N ks n m Bs cur (pre ++ [x]) W3 := by
  have hk : KeepsOthers W.drew W3 := keeps_of h.drew.out hst
  have hE3 := h.drew.step hst
  refine ⟨⟨hk.size, hk.same⟩, ⟨hst.kept.block Bs u3 u2 u1, hst.kept.block g h.row.lt h.gbo h.gown⟩, v3, ?_, ?_, u2, Nat.lt_of_lt_of_le u3 hst.kept.size, by simp; omega⟩
  · have e : cur ++ (pre ++ [x]).map (yOf ks n) = cur ++ pre.map (yOf ks n) ++ [yOf ks n x] := by simp
    rw [e]; exact hE3
  · intro q
    rcases hst.fresh with e | e
    · exact u1 (q.trans e)
    · have := e Bs q.symm
      have h3 : Bs < W.drew.heap.size := u3
      omega
theorem ups_of (ks : List Lk) (n m : Nat) (hm : m ≤ n) (xs : List (Ix m)) (h : xs.map (·.1) = (List.range m).reverse) : xs.map (yOf ks n) = ups ks (n - m) n := by
  have e : xs.map (yOf ks n) = (xs.map (·.1)).map fun x => (ks.getD (n - 1 - x) lk0).y := by rw [List.map_map]; rfl
  rw [e, h]
  unfold ups
  apply List.ext_getElem
  · simp; omega
  · intro i h1 h2
    have h1' : i < m := by simpa using h1
    have e2 : n - 1 - (m - 1 - i) = n - m + i := by omega
    simp [e2]
def lenOf : Value → Nat
  | .slice _ n _ => n
  | _ => 0
def CTo (B0 bo bs base : Nat) (skip : Int) (Wc : World) (qs : List Po) (e : Ending) (w' : World) : Prop := e = .returned (.tuple #[]) ∧ ∃ v', Out bo bs base skip qs v' w' ∧ Below B0 Wc w'
set_option maxRecDepth 100000 in
set_option maxHeartbeats 4000000 in
theorem chain_any (leaf : Po) (ks : List Lk) (L : Nat) (N Y : Nat → Nat) (n : Nat) (Wc : World) (hC : Chain Wc leaf ks L N Y n) (hn : 1 ≤ n) (hn2 : n ≤ 32768) (skip : Int) (bo bs base : Nat) (ps : List Po) (v : Value) (w : World)
    (hO : Out bo bs base skip ps v w) (hb : Below Wc.heap.size Wc w) (oB : Wc.heap.size ≤ bo) (bB : Wc.heap.size ≤ base) (hl : ps.length ≤ 1) :
    Calls Try.prog 14 #[.pointer (some ⟨N (n - 1), 0, none⟩), .func (.func 13) #[] #[.pointer (some ⟨bo, 0, none⟩), .pointer (some ⟨bs, 0, none⟩)]] w
      (CTo Wc.heap.size bo bs base skip Wc (ps ++ down leaf ks skip (n - 1) ++ ups ks (stop ks skip (n - 1)) n)) := by
  have E0 := Env.start hO hb oB bB (.cells #[.pointer (some ⟨N (n - 1), 0, none⟩)] 28)
  have hnew : (((w.alloc (fObj bo bs)).alloc bufObj).alloc (.cells #[.pointer (some ⟨N (n - 1), 0, none⟩)] 28)).heap[w.heap.size + 1 + 1]? = some (.cells #[.pointer (some ⟨N (n - 1), 0, none⟩)] 28 (0, 0)) := by
    have := new2 (w.alloc (fObj bo bs)) bufObj (.cells #[.pointer (some ⟨N (n - 1), 0, none⟩)] 28)
    rwa [World.size_alloc] at this
  have hsz := hO.sz
  have HE0 := hide E0
  have HNEW := hide hnew
  have HC := hide hC
  clear hO hb E0 hnew hC
  have hmix : Try.prog.follows .mixedOrders = true := by kernel_rfl
  refine (callsIn_wide (n := 3)).1 ?_
  refine callsIn_of_wp_marks Try.func14 rfl trivial ?_ rfl
  refine wpIn_wide.2 ?_
  simp only [Try.ntmps14, List.size_toArray, List.length_cons, List.length_nil, Nat.reduceAdd, Nat.reduceSub, Array.replicate_succ, Array.replicate_zero, List.push_toArray, List.append_toArray, List.nil_append, List.cons_append]
  go_wp2_with (first | (at_builtin; refine list_ptr rfl (.tmp 11) (.tmp 13) rfl (w.heap.size + 1) 8 [] 0 rfl HE0.out.row rfl (w.heap.size + 1 + 1) (N (n - 1)) rfl HNEW.out (by simp) ?_; intro g1 cap1 w4 hp1))
  have HE1 := hide (HE0.out.push hp1)
  clear hp1 HE0 HNEW
  go_loopw [5, 6, 7, 8] (fun cv _ _ _ wr => ∃ i g cap cur v m, i + m + 1 = n ∧ cv = .slice (some ⟨g, 0, none⟩) (m + 1) cap ∧ Env Wc.heap.size bo bs base w.heap.size skip Wc g cap (nodes N n (m + 1)) cur v wr ∧
      cur ++ down leaf ks skip i = ps ++ down leaf ks skip (n - 1) ∧ stop ks skip i = stop ks skip (n - 1) ∧ cur.length ≤ m + 1) (fun cv _ _ _ _ => n - lenOf cv)
  case atStart =>
    refine ⟨n - 1, g1, cap1, ps, v, 0, by omega, rfl, ?_, rfl, rfl, by omega⟩
    rw [nodes_succ]
    simpa [nodes] using HE1.out
  case round =>
    obtain ⟨i, g, cap, cur, v, m, him, rfl, hE, heq, hst, hcl⟩ := hrel
    have hN := (HC.out.node i (by omega)).below hE.bel
    have qm := hE.row.cells m (by rw [nodes_length]; omega)
    rw [nodes_get _ _ _ _ (by omega), show n - 1 - m = i by omega] at qm
    have qx := hN.hx
    have fc := hE.fc
    have HE := hide hE
    have HEQ := hide heq
    have HST := hide hst
    clear hE heq hst HE1
    cases i with
    | zero =>
      have qx' : wr.cell? ⟨N 0, 3, none⟩ = some (.iface 37 (.pointer (some ⟨L, 0, none⟩))) := qx
      have t1 := no28 ⟨L, 0, none⟩
      have HIN := hide (insp_ident wr.drew skip L bo bs base cur leaf v (HC.out.leaf.below (HE.out.bel.drew)) (Nat.lt_of_lt_of_le HC.out.leaf.lt bB) HE.out.drew.out (by omega))
      clear qx hN
      go_upto_region 6 with fail
      refine region_still_tail 5 (by kernel_rfl) (by kernel_rfl) ?_
      simp only [List.take_succ_cons, List.take_zero, List.drop_succ_cons, List.drop_zero]
      iterate 5 (refine still_yes (by kernel_rfl) (fun K hK => ?_); go_simp; refine hK _ ?_; clear hK K)
      refine wpStill_nil ?_
      go_wp2_with (first | (go_at_call 12; refine HIN.out.mono ?_; rintro e w' ⟨rfl, v', hst⟩))
      have E1 := hide (HE.out.drew.step hst)
      clear hst
      obtain ⟨curF, hcF⟩ : ∃ c, cur ++ [leaf] = c := ⟨_, rfl⟩
      rw [hcF] at E1
      have HCF := hide (show curF = ps ++ down leaf ks skip (n - 1) by rw [← hcF]; exact HEQ.out)
      have HCL := hide (show curF.length ≤ 40000 by rw [← hcF]; simp; omega)
      have HM := hide (show stop ks skip (n - 1) = n - (m + 1) by rw [← HST.out]; simp [stop]; omega)
      clear hcF
      have BK := hide (back_any (some ⟨g, 0, none⟩) (m + 1) cap w')
      refine BK.out.mono ?_
      rintro e w5 ⟨rfl, hw5⟩
      have E5 := hide (show Env Wc.heap.size bo bs base w.heap.size skip Wc g cap (nodes N n (m + 1)) curF v' w5 by rw [hw5]; exact E1.out.alloc _)
      have hBs : w5.cell? ⟨w'.heap.size, 0, none⟩ = some (.slice (some ⟨g, 0, none⟩) (m + 1) cap) := by rw [hw5, cell_of_row _ _ _ _ _ _ (heap_alloc_new w' _)]; rfl
      have hgl := E1.out.row.lt
      have hsz5 : w5.heap.size = w'.heap.size + 1 := by rw [hw5]; simp
      have hUp : Up Wc.heap.size bo bs base w.heap.size skip Wc g cap N ks n (m + 1) w'.heap.size curF [] w5 := by
        refine ⟨v', ?_, far_own E1.out.out.own (.inr (Nat.le_refl _)), ?_, by omega, by simp⟩
        · simpa using E5.out
        · have := E1.out.out.lo; have := E1.out.out.sz; omega
      have STP := hide (back_stops 2 w'.heap.size g (m + 1) cap (fun j => N (n - 1 - j)) (by omega) (by omega) w5 hBs (fun j hj => by have := E5.out.row.cells j (by rw [nodes_length]; exact hj); rw [nodes_get _ _ _ _ hj] at this; exact this))
      have HUP := hide hUp
      clear BK hBs hUp hw5
      go_wp2_with fail
      refine (wpIn_wide (n := 3)).1 ?_
      refine wpIn_rangeFunc_ownF rfl (by omega) (gf := 16) (lb := #[.pointer (some ⟨w'.heap.size, 0, none⟩)]) rfl trivial (enters_of Try.func16 (by kernel_rfl) rfl) STP.out (fun h k => Kp.trans h k) ?hKb (Below.refl _ _) (fun _ => rfl)
        (Up Wc.heap.size bo bs base w.heap.size skip Wc g cap N ks n (m + 1) w'.heap.size curF) (fun _ _ _ => False) ?hI ?hIx HUP.out ?a1 ?assign ?body ?done ?stop
      case assign =>
        intro l x W K hK
        simp only [encs]
        gi_wp2
        exact hK
      case hKb =>
        intro W l o o' hl hW ho _
        exact ⟨World.putObj_heap_other (by omega), World.putObj_heap_other (by omega)⟩
      case hI =>
        rintro pre W W' row ⟨v2, hE2, u1, u2, u3, u4⟩ hg hr
        have hgB := E1.out.gB
        exact ⟨v2, hE2.grown (by rw [nodes_length]; omega) hg (fun r e => (hr r e).2) (fun r e => by have := (hr r e).1; omega), u1, u2, Nat.lt_of_lt_of_le u3 hg.size, u4⟩
      case hIx => exact fun c s W W' row h _ _ => h
      case body =>
        intro l pre x W hU hlen
        obtain ⟨v2, hE2, u1, u2, u3, u4⟩ := hU
        have hx := x.2
        have hNx := (HC.out.node (n - 1 - x.1) (by omega)).below hE2.bel
        have qy := hNx.hy
        have fc2 := hE2.fc
        have hyB := (HC.out.node (n - 1 - x.1) (by omega)).ha.lt
        have HIN := hide (insp_ident W.drew skip (Y (n - 1 - x.1)) bo bs base (curF ++ pre.map (yOf ks n)) (yOf ks n x) v2 (hNx.ha.below ((Below.refl _ _).drew)) (by omega) hE2.drew.out (by have := HCL.out; simp; omega))
        have HE2 := hide hE2
        clear hNx hE2
        gi_wp2
        gi_region_with_o (first | (gi_at_call 12; refine (CallsIn.inRound l (callsIn_wide.2 HIN.out)).mono ?_; rintro e W3 ⟨rfl, v3, hst⟩) | (refine ⟨trivial, ?_⟩; gi_at_call 12; refine (CallsIn.inRound l (callsIn_wide.2 HIN.out)).mono ?_; rintro e W3 ⟨rfl, v3, hst⟩))
        all_goals (gi_wp2; exact up_step x HE2.out u1 u2 u3 hlen hst)
      case done =>
        rintro D xs W hD hS ⟨v2, hE2, u1, u2, u3, u4⟩ hK
        go_wp2_with fail
        refine ⟨by simp, .inl ⟨_, _, rfl, run_takeDeferred hK, ?_⟩⟩
        have hgB := E1.out.gB
        have hE3 := hE2.grown (by rw [nodes_length]; omega) (grownBy_putObj' W D (.deferred none)) (fun r e => by cases e; exact ⟨_, hK, rfl⟩) (fun r e => by cases e; omega)
        rw [ups_of ks n (m + 1) (by omega) xs hS, HCF.out, ← HM.out] at hE3
        exact ⟨_, results_none rfl _ _ _, rfl, _, hE3.out, hE3.bel⟩
      case stop =>
        rintro D c pre W _ _ h _
        exact h.elim
    | succ j =>
      have qx' : wr.cell? ⟨N (j + 1), 3, none⟩ = some (.iface 28 (.pointer (some ⟨N j, 0, none⟩))) := qx
      have t1 := is28 42 ⟨N j, 0, none⟩
      have hNj := (HC.out.node j (by omega)).below HE.out.bel
      have HCB := hide (clo_bin wr skip (N j) bo bs base cur (ks.getD j lk0).o v hNj.hp (Nat.lt_of_lt_of_le (HC.out.node j (by omega)).hp.lt bB) HE.out.out (by omega))
      clear qx hN hNj
      obtain ⟨p, hp⟩ : ∃ p, (ks.getD j lk0).o = p := ⟨_, rfl⟩
      rw [hp] at HCB
      have hdn : down leaf ks skip (j + 1) = p :: if p.1 = skip then [] else down leaf ks skip j := by rw [← hp]; rfl
      have hsp : stop ks skip (j + 1) = if p.1 = skip then j + 1 else stop ks skip j := by rw [← hp]; rfl
      have HDN := hide hdn
      have HSP := hide hsp
      clear hp hdn hsp
      by_cases hsk : p.1 = skip
      · have HSK := hide hsk
        have gd : decide (p.1 ≠ skip) = false := by simp [hsk]
        have HC2 : Hid (Calls Try.prog 13 #[.iface 28 (.pointer (some ⟨N j, 0, none⟩)), .pointer (some ⟨bo, 0, none⟩), .pointer (some ⟨bs, 0, none⟩)] wr fun e w' => ∃ v', e = .returned (.bool false) ∧ Step bo bs base skip (cur ++ [p]) v wr v' w') := by
          have := HCB.out
          unfold FTo at this
          rw [gd] at this
          exact this
        clear HCB gd hsk
        go_wp2_with (first | (go_at_call 13; refine HC2.out.mono ?_; rintro e w' ⟨v', rfl, hst⟩; have E1 := hide (HE.out.step hst); clear hst))
        obtain ⟨curF, hcF⟩ : ∃ c, cur ++ [p] = c := ⟨_, rfl⟩
        rw [hcF] at E1
        have HCF := hide (show curF = ps ++ down leaf ks skip (n - 1) by rw [← hcF, ← HEQ.out, HDN.out, if_pos HSK.out])
        have HCL := hide (show curF.length ≤ 40000 by rw [← hcF]; simp; omega)
        have HM := hide (show stop ks skip (n - 1) = n - (m + 1) by rw [← HST.out, HSP.out, if_pos HSK.out]; omega)
        clear hcF
        have BK := hide (back_any (some ⟨g, 0, none⟩) (m + 1) cap w')
        refine BK.out.mono ?_
        rintro e w5 ⟨rfl, hw5⟩
        have E5 := hide (show Env Wc.heap.size bo bs base w.heap.size skip Wc g cap (nodes N n (m + 1)) curF v' w5 by rw [hw5]; exact E1.out.alloc _)
        have hBs : w5.cell? ⟨w'.heap.size, 0, none⟩ = some (.slice (some ⟨g, 0, none⟩) (m + 1) cap) := by rw [hw5, cell_of_row _ _ _ _ _ _ (heap_alloc_new w' _)]; rfl
        have hgl := E1.out.row.lt
        have hsz5 : w5.heap.size = w'.heap.size + 1 := by rw [hw5]; simp
        have hUp : Up Wc.heap.size bo bs base w.heap.size skip Wc g cap N ks n (m + 1) w'.heap.size curF [] w5 := by
          refine ⟨v', ?_, far_own E1.out.out.own (.inr (Nat.le_refl _)), ?_, by omega, by simp⟩
          · simpa using E5.out
          · have := E1.out.out.lo; have := E1.out.out.sz; omega
        have STP := hide (back_stops 2 w'.heap.size g (m + 1) cap (fun j => N (n - 1 - j)) (by omega) (by omega) w5 hBs (fun j hj => by have := E5.out.row.cells j (by rw [nodes_length]; exact hj); rw [nodes_get _ _ _ _ hj] at this; exact this))
        have HUP := hide hUp
        clear BK hBs hUp hw5
        go_wp2_with fail
        refine (wpIn_wide (n := 3)).1 ?_
        refine wpIn_rangeFunc_ownF rfl (by omega) (gf := 16) (lb := #[.pointer (some ⟨w'.heap.size, 0, none⟩)]) rfl trivial (enters_of Try.func16 (by kernel_rfl) rfl) STP.out (fun h k => Kp.trans h k) ?hKb (Below.refl _ _) (fun _ => rfl)
          (Up Wc.heap.size bo bs base w.heap.size skip Wc g cap N ks n (m + 1) w'.heap.size curF) (fun _ _ _ => False) ?hI ?hIx HUP.out ?a2 ?assign ?body ?done ?stop
        case assign =>
          intro l x W K hK
          simp only [encs]
          gi_wp2
          exact hK
        case hKb =>
          intro W l o o' hl hW ho _
          exact ⟨World.putObj_heap_other (by omega), World.putObj_heap_other (by omega)⟩
        case hI =>
          rintro pre W W' row ⟨v2, hE2, u1, u2, u3, u4⟩ hg hr
          have hgB := E1.out.gB
          exact ⟨v2, hE2.grown (by rw [nodes_length]; omega) hg (fun r e => (hr r e).2) (fun r e => by have := (hr r e).1; omega), u1, u2, Nat.lt_of_lt_of_le u3 hg.size, u4⟩
        case hIx => exact fun c s W W' row h _ _ => h
        case body =>
          intro l pre x W hU hlen
          obtain ⟨v2, hE2, u1, u2, u3, u4⟩ := hU
          have hx := x.2
          have hNx := (HC.out.node (n - 1 - x.1) (by omega)).below hE2.bel
          have qy := hNx.hy
          have fc2 := hE2.fc
          have hyB := (HC.out.node (n - 1 - x.1) (by omega)).ha.lt
          have HIN := hide (insp_ident W.drew skip (Y (n - 1 - x.1)) bo bs base (curF ++ pre.map (yOf ks n)) (yOf ks n x) v2 (hNx.ha.below ((Below.refl _ _).drew)) (by omega) hE2.drew.out (by have := HCL.out; simp; omega))
          have HE2 := hide hE2
          clear hNx hE2
          gi_wp2
          gi_region_with_o (first | (gi_at_call 12; refine (CallsIn.inRound l (callsIn_wide.2 HIN.out)).mono ?_; rintro e W3 ⟨rfl, v3, hst⟩) | (refine ⟨trivial, ?_⟩; gi_at_call 12; refine (CallsIn.inRound l (callsIn_wide.2 HIN.out)).mono ?_; rintro e W3 ⟨rfl, v3, hst⟩))
          all_goals (gi_wp2; exact up_step x HE2.out u1 u2 u3 hlen hst)
        case done =>
          rintro D xs W hD hS ⟨v2, hE2, u1, u2, u3, u4⟩ hK
          go_wp2_with fail
          refine ⟨by simp, .inl ⟨_, _, rfl, run_takeDeferred hK, ?_⟩⟩
          have hgB := E1.out.gB
          have hE3 := hE2.grown (by rw [nodes_length]; omega) (grownBy_putObj' W D (.deferred none)) (fun r e => by cases e; exact ⟨_, hK, rfl⟩) (fun r e => by cases e; omega)
          rw [ups_of ks n (m + 1) (by omega) xs hS, HCF.out, ← HM.out] at hE3
          exact ⟨_, results_none rfl _ _ _, rfl, _, hE3.out, hE3.bel⟩
        case stop =>
          rintro D c pre W _ _ h _
          exact h.elim
      · have HSK := hide hsk
        have gd : decide (p.1 ≠ skip) = true := by simp [hsk]
        have HC2 : Hid (Calls Try.prog 13 #[.iface 28 (.pointer (some ⟨N j, 0, none⟩)), .pointer (some ⟨bo, 0, none⟩), .pointer (some ⟨bs, 0, none⟩)] wr fun e w' => ∃ v', e = .returned (.bool true) ∧ Step bo bs base skip (cur ++ [p]) v wr v' w') := by
          have := HCB.out
          unfold FTo at this
          rw [gd] at this
          exact this
        clear HCB gd hsk
        go_wp2_with (first
          | (go_at_call 13; refine HC2.out.mono ?_; rintro e w' ⟨v', rfl, hst⟩; have E1 := hide ((HE.out.step hst).alloc (.cells #[.pointer (some ⟨N j, 0, none⟩)] 28)); clear hst)
          | (at_builtin; refine list_ptr rfl (.tmp 42) (.tmp 44) rfl g cap (nodes N n (m + 1)) (m + 1) (nodes_length _ _ _) E1.out.row rfl w'.heap.size (N j) rfl (heap_alloc_new w' _) (by rw [nodes_length]; omega) ?_; intro g2 cap2 w2 hp2; have E2 := hide (E1.out.push hp2); clear hp2))
        go_roundw
        case rel =>
          refine ⟨j, g2, cap2, cur ++ [p], v', m + 1, by omega, rfl, ?_, ?_, ?_, by simp; omega⟩
          · rw [nodes_succ, show n - 1 - (m + 1) = j by omega]
            exact E2.out
          · have := HEQ.out
            rw [HDN.out, if_neg HSK.out] at this
            rw [← this]; simp
          · have := HST.out
            rw [HSP.out, if_neg HSK.out] at this
            exact this
        case measure => simp [lenOf]; omega
end Go.Proofs.Qxb6616227a.Ins
