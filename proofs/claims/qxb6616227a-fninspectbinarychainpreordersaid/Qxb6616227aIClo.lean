import Derived.Test.Qxb6616227aIModel
namespace Go.Proofs.Qxb6616227a.Ins
open Go.RowKit
set_option linter.unusedVariables false
set_option linter.unusedSimpArgs false

theorem method_ident (a : Addr) (w : World) : (method 253 37 (.pointer (some a)) "Pos").run Try.prog w = .ok (34, .pointer (some a)) w := by kernel_rfl
theorem method_bin (a : Addr) (w : World) : (method 253 28 (.pointer (some a)) "Pos").run Try.prog w = .ok (32, .pointer (some a)) w := by kernel_rfl
/-- A node's position lies in its first two cells. -/
def At (w : World) (b : Nat) (p : Po) : Prop := w.cell? ⟨b, 0, none⟩ = some (.int .i64 p.1) ∧ w.cell? ⟨b, 1, none⟩ = some (.int .i64 p.2)
theorem pos_ident (w : World) (b : Nat) (p : Po) (h : At w b p) : Calls Try.prog 34 #[.pointer (some ⟨b, 0, none⟩)] w fun e w' => e = .returned (.agg #[.int .i64 p.1, .int .i64 p.2]) ∧ w' = w.alloc (.cells #[.int .i64 p.1, .int .i64 p.2] 25) := by
  obtain ⟨h0, h1⟩ := h
  have g0 := al_cell h0 (.cells #[.int .i64 0, .int .i64 0] 25)
  have g1 := al_cell h1 (.cells #[.int .i64 0, .int .i64 0] 25)
  clear h0 h1
  go_enter Try.func34, Try.ntmps34
  go_wp2_with fail
  (try simp only [Exit.inBlock, Exit.then])
  refine bodyPost_ret (v := .agg #[.int .i64 p.1, .int .i64 p.2]) ?_ ?_ ⟨rfl, rfl⟩
  · exact results_cell_row rfl _ _ w.heap.size 25 #[.int .i64 p.1, .int .i64 p.2] (0, 0) _ rfl (heap_alloc_new w _) Try.underlying25 rfl (by kernel_rfl)
  · rfl
theorem pos_bin (w : World) (b : Nat) (p : Po) (h : At w b p) : Calls Try.prog 32 #[.pointer (some ⟨b, 0, none⟩)] w fun e w' => e = .returned (.agg #[.int .i64 p.1, .int .i64 p.2]) ∧ w' = w.alloc (.cells #[.int .i64 p.1, .int .i64 p.2] 25) := by
  obtain ⟨h0, h1⟩ := h
  have g0 := al_cell h0 (.cells #[.int .i64 0, .int .i64 0] 25)
  have g1 := al_cell h1 (.cells #[.int .i64 0, .int .i64 0] 25)
  clear h0 h1
  go_enter Try.func32, Try.ntmps32
  go_wp2_with fail
  (try simp only [Exit.inBlock, Exit.then])
  refine bodyPost_ret (v := .agg #[.int .i64 p.1, .int .i64 p.2]) ?_ ?_ ⟨rfl, rfl⟩
  · exact results_cell_row rfl _ _ w.heap.size 25 #[.int .i64 p.1, .int .i64 p.2] (0, 0) _ rfl (heap_alloc_new w _) Try.underlying25 rfl (by kernel_rfl)
  · rfl

/-- What the visitor has written down. -/
structure Out (bo bs base : Nat) (skip : Int) (ps : List Po) (v : Value) (w : World) : Prop where
  ho : w.heap[bo]? = some (.cells #[v] 26 (0, 0))
  hs : w.cell? ⟨bs, 0, none⟩ = some (.int .i64 skip)
  own : w.ownsRow base 25 2 v ps.length (pv ps)
  lo : bo < base
  ls : bs < base
  ne : bo ≠ bs
  sz : base ≤ w.heap.size
/-- From w to w' nothing of w's blocks has turned but the variable's and its row's. -/
structure Kept (bo : Nat) (v : Value) (w w' : World) : Prop where
  os : w'.os = w.os
  tape : w'.tape = w.tape
  output : w'.output = w.output
  size : w.heap.size ≤ w'.heap.size
  block : ∀ k, k < w.heap.size → k ≠ bo → some k ≠ v.ownBlock → w'.heap[k]? = w.heap[k]?
/-- What a call of the visitor leaves. -/
structure Step (bo bs base : Nat) (skip : Int) (qs : List Po) (v : Value) (w : World) (v' : Value) (w' : World) : Prop where
  out : Out bo bs base skip qs v' w'
  kept : Kept bo v w w'
  fresh : v'.ownBlock = v.ownBlock ∨ ∀ k, v'.ownBlock = some k → w.heap.size ≤ k
def FTo (bo bs base : Nat) (skip : Int) (ps : List Po) (p : Po) (v : Value) (w : World) (e : Ending) (w' : World) : Prop :=
  ∃ v', e = .returned (.bool (decide (p.1 ≠ skip))) ∧ Step bo bs base skip (ps ++ [p]) v w v' w'

theorem set_cell_other {W : World} {b c o q : Nat} {u v : Value} (hb : c ≠ b) (h : W.cell? ⟨c, q, none⟩ = some v) : (W.setCell ⟨b, o, none⟩ u).cell? ⟨c, q, none⟩ = some v :=
  (World.cell?_of_block (a := ⟨c, q, none⟩) (Below.heap_setCell W ⟨b, o, none⟩ u c hb)).trans h
theorem size_set (W : World) (a : Addr) (v : Value) : (W.setCell a v).heap.size = W.heap.size := by simp [World.setCell]
/-- The visitor's memory from the call on to its return. -/
theorem clo_step {w w3 w4 : World} {bo bs base g cap : Nat} {skip : Int} {ps : List Po} {p : Po} {v : Value} (h : Out bo bs base skip ps v w) (hb3 : Below w.heap.size w w3) (hown3 : w3.ownsRow base 25 2 v ps.length (pv ps))
    (h1 : w4.ownsRow base 25 2 (.slice (some ⟨g, 0, none⟩) (ps.length + 1) cap) (ps.length + 1) (pv (ps ++ [p]))) (h2 : w3.grownBy w4 v.ownBlock) (h3 : v.ownBlock = some g ∨ g = w3.heap.size) :
    Step bo bs base skip (ps ++ [p]) v w (.slice (some ⟨g, 0, none⟩) (ps.length + 1) cap) (w4.setCell ⟨bo, 0, none⟩ (.slice (some ⟨g, 0, none⟩) (ps.length + 1) cap)) := by
  have far : ∀ k, k < base → some k ≠ v.ownBlock := fun k hk => far_own h.own (.inl hk)
  have hbo4 : w4.heap[bo]? = some (.cells #[v] 26 (0, 0)) := by
    rw [h2.block bo (by have := h.lo; have := h.sz; have := hb3.size; omega) (far bo h.lo), hb3.block bo (by have := h.lo; have := h.sz; omega)]; exact h.ho
  have hlt := h.sz
  have hlo := h.lo
  have h3s := hb3.size
  have h4s := h2.size
  refine ⟨⟨?_, ?_, ?_, h.lo, h.ls, h.ne, ?_⟩, ⟨?_, ?_, ?_, ?_, ?_⟩, ?_⟩
  · simp [World.setCell, Array.getElem?_modify, hbo4]
  · refine set_cell_other (fun q => h.ne q.symm) ?_
    exact h2.cell (seen hb3 (by have := h.ls; omega) h.hs) (far bs h.ls)
  · have : (ps ++ [p]).length = ps.length + 1 := by simp
    rw [this]
    exact ownsRow_setCell_below h1 hlo _
  · rw [size_set]; omega
  · show w4.os = _; rw [h2.os, hb3.os]
  · show w4.tape = _; rw [h2.tape, hb3.tape]
  · show w4.output = _; rw [h2.output, hb3.output]
  · rw [size_set]; omega
  · intro k hk hne hown
    rw [Below.heap_setCell _ _ _ _ hne, h2.block k (by omega) hown, hb3.block k hk]
  · rcases h3 with h3 | h3
    · left; exact h3.symm
    · right
      intro k hk
      have : g = k := by simpa [Value.ownBlock] using hk
      omega

theorem clo_facts {w w3 w4 : World} {bo bs base : Nat} {skip x : Int} {ps : List Po} {v : Value} (h : Out bo bs base skip ps v w) (hb3 : Below w.heap.size w w3) (h2 : w3.grownBy w4 v.ownBlock)
    (pl3 : w3.cell? ⟨w.heap.size + 1, 0, none⟩ = some (.int .i64 x)) (u : Value) :
    w4.cell? ⟨bo, 0, none⟩ = some v ∧ w4.frozen? ⟨bo, 0, none⟩ = false ∧ (w4.setCell ⟨bo, 0, none⟩ u).cell? ⟨w.heap.size + 1, 0, none⟩ = some (.int .i64 x) ∧ (w4.setCell ⟨bo, 0, none⟩ u).cell? ⟨bs, 0, none⟩ = some (.int .i64 skip) := by
  have far : ∀ k, k < base → some k ≠ v.ownBlock := fun k hk => far_own h.own (.inl hk)
  have hlo := h.lo
  have hsz := h.sz
  have hls := h.ls
  have h3s := hb3.size
  have hbo4 : w4.heap[bo]? = some (.cells #[v] 26 (0, 0)) := by
    rw [h2.block bo (by omega) (far bo h.lo), hb3.block bo (by omega)]; exact h.ho
  refine ⟨by rw [cell_of_row _ _ _ _ _ _ hbo4]; rfl, by simp [World.frozen?, hbo4], ?_, ?_⟩
  · exact set_cell_other (by omega) (h2.cell pl3 (far_own h.own (.inr (by show w.heap.size ≤ w.heap.size + 1; omega))))
  · exact set_cell_other (fun q => h.ne q.symm) (h2.cell (seen hb3 (by omega) h.hs) (far bs h.ls))

set_option maxRecDepth 100000 in
set_option maxHeartbeats 4000000 in
theorem clo_ident (w : World) (skip : Int) (b : Nat) (bo bs base : Nat) (ps : List Po) (p : Po) (v : Value) (hat : At w b p) (hb : b < base) (h : Out bo bs base skip ps v w) (hl : ps.length ≤ 400000) :
    Calls Try.prog 13 #[.iface 37 (.pointer (some ⟨b, 0, none⟩)), .pointer (some ⟨bo, 0, none⟩), .pointer (some ⟨bs, 0, none⟩)] w (FTo bo bs base skip ps p v w) := by
  have hm := method_ident ⟨b, 0, none⟩
  have HO := hide h
  have HAT := hide hat
  have hlt := h.sz
  have hlo := h.lo
  have hls := h.ls
  have hv : w.cell? ⟨bo, 0, none⟩ = some v := by rw [cell_of_row _ _ _ _ _ _ h.ho]; rfl
  have c1 := al_cell (al_cell hv (.cells #[.int .i64 p.1, .int .i64 p.2] 25)) (.cells #[.int .i64 p.1, .int .i64 p.2] 25)
  obtain ⟨aN, cN, hve, _, _⟩ := rdp_of h.own
  have HVE := hide hve
  rw [hve] at c1
  have own3 := ((h.own.alloc (.cells #[.int .i64 p.1, .int .i64 p.2] 25)).alloc (.cells #[.int .i64 p.1, .int .i64 p.2] 25)).alloc (.cells #[.int .i64 p.1, .int .i64 p.2] 25)
  have bel3 : Below w.heap.size w (((w.alloc (.cells #[.int .i64 p.1, .int .i64 p.2] 25)).alloc (.cells #[.int .i64 p.1, .int .i64 p.2] 25)).alloc (.cells #[.int .i64 p.1, .int .i64 p.2] 25)) := (((Below.refl _ _).alloc (Nat.le_refl _) _).alloc (by simp) _).alloc (by simp; omega) _
  have new3 : (((w.alloc (.cells #[.int .i64 p.1, .int .i64 p.2] 25)).alloc (.cells #[.int .i64 p.1, .int .i64 p.2] 25)).alloc (.cells #[.int .i64 p.1, .int .i64 p.2] 25)).heap[w.heap.size + 1 + 1]? = some (pcell p) := by
    have := new2 (w.alloc (.cells #[.int .i64 p.1, .int .i64 p.2] 25)) (.cells #[.int .i64 p.1, .int .i64 p.2] 25) (.cells #[.int .i64 p.1, .int .i64 p.2] 25)
    simpa using this
  have sz3 : base ≤ (((w.alloc (.cells #[.int .i64 p.1, .int .i64 p.2] 25)).alloc (.cells #[.int .i64 p.1, .int .i64 p.2] 25)).alloc (.cells #[.int .i64 p.1, .int .i64 p.2] 25)).heap.size := by simp; omega
  have pl3 : (((w.alloc (.cells #[.int .i64 p.1, .int .i64 p.2] 25)).alloc (.cells #[.int .i64 p.1, .int .i64 p.2] 25)).alloc (.cells #[.int .i64 p.1, .int .i64 p.2] 25)).cell? ⟨w.heap.size + 1, 0, none⟩ = some (.int .i64 p.1) := by
    refine al_cell ?_ _
    rw [cell_of_row _ _ _ _ _ _ (new2 w _ _)]; rfl
  have OWN3 := hide own3
  have BEL3 := hide bel3
  have NEW3 := hide new3
  have SZ3 := hide sz3
  have PL3 := hide pl3
  clear hve h hat own3 bel3 new3 sz3 pl3 hv
  go_enter Try.func13, Try.ntmps13
  go_wp2_with (first
    | (go_at_call 34; refine (pos_ident w b p HAT.out).mono ?_; rintro e w' ⟨rfl, hw⟩; subst w')
    | (at_builtin; refine list_out rfl (.tmp 8) (.tmp 10) rfl base v ps.length ps HVE.out.symm OWN3.out (w.heap.size + 1 + 1) p rfl NEW3.out (by omega) SZ3.out ?_; intro g cap w4 h1 h2 h3 h4; obtain ⟨k1, k2, k3, k4⟩ := clo_facts HO.out BEL3.out h2 PL3.out (.slice (some ⟨g, 0, none⟩) (ps.length + 1) cap); have ST := hide (clo_step HO.out BEL3.out OWN3.out h1 h2 h3); clear h1 h2 h3 h4))
  go_ret
  refine ⟨_, ?_, ST.out⟩
  have e : (p.1 != skip) = decide (p.1 ≠ skip) := by by_cases c : p.1 = skip <;> simp [c]
  simp [e]
set_option maxRecDepth 100000 in
set_option maxHeartbeats 4000000 in
theorem clo_bin (w : World) (skip : Int) (b : Nat) (bo bs base : Nat) (ps : List Po) (p : Po) (v : Value) (hat : At w b p) (hb : b < base) (h : Out bo bs base skip ps v w) (hl : ps.length ≤ 400000) :
    Calls Try.prog 13 #[.iface 28 (.pointer (some ⟨b, 0, none⟩)), .pointer (some ⟨bo, 0, none⟩), .pointer (some ⟨bs, 0, none⟩)] w (FTo bo bs base skip ps p v w) := by
  have hm := method_bin ⟨b, 0, none⟩
  have HO := hide h
  have HAT := hide hat
  have hlt := h.sz
  have hlo := h.lo
  have hls := h.ls
  have hv : w.cell? ⟨bo, 0, none⟩ = some v := by rw [cell_of_row _ _ _ _ _ _ h.ho]; rfl
  have c1 := al_cell (al_cell hv (.cells #[.int .i64 p.1, .int .i64 p.2] 25)) (.cells #[.int .i64 p.1, .int .i64 p.2] 25)
  obtain ⟨aN, cN, hve, _, _⟩ := rdp_of h.own
  have HVE := hide hve
  rw [hve] at c1
  have own3 := ((h.own.alloc (.cells #[.int .i64 p.1, .int .i64 p.2] 25)).alloc (.cells #[.int .i64 p.1, .int .i64 p.2] 25)).alloc (.cells #[.int .i64 p.1, .int .i64 p.2] 25)
  have bel3 : Below w.heap.size w (((w.alloc (.cells #[.int .i64 p.1, .int .i64 p.2] 25)).alloc (.cells #[.int .i64 p.1, .int .i64 p.2] 25)).alloc (.cells #[.int .i64 p.1, .int .i64 p.2] 25)) := (((Below.refl _ _).alloc (Nat.le_refl _) _).alloc (by simp) _).alloc (by simp; omega) _
  have new3 : (((w.alloc (.cells #[.int .i64 p.1, .int .i64 p.2] 25)).alloc (.cells #[.int .i64 p.1, .int .i64 p.2] 25)).alloc (.cells #[.int .i64 p.1, .int .i64 p.2] 25)).heap[w.heap.size + 1 + 1]? = some (pcell p) := by
    have := new2 (w.alloc (.cells #[.int .i64 p.1, .int .i64 p.2] 25)) (.cells #[.int .i64 p.1, .int .i64 p.2] 25) (.cells #[.int .i64 p.1, .int .i64 p.2] 25)
    simpa using this
  have sz3 : base ≤ (((w.alloc (.cells #[.int .i64 p.1, .int .i64 p.2] 25)).alloc (.cells #[.int .i64 p.1, .int .i64 p.2] 25)).alloc (.cells #[.int .i64 p.1, .int .i64 p.2] 25)).heap.size := by simp; omega
  have pl3 : (((w.alloc (.cells #[.int .i64 p.1, .int .i64 p.2] 25)).alloc (.cells #[.int .i64 p.1, .int .i64 p.2] 25)).alloc (.cells #[.int .i64 p.1, .int .i64 p.2] 25)).cell? ⟨w.heap.size + 1, 0, none⟩ = some (.int .i64 p.1) := by
    refine al_cell ?_ _
    rw [cell_of_row _ _ _ _ _ _ (new2 w _ _)]; rfl
  have OWN3 := hide own3
  have BEL3 := hide bel3
  have NEW3 := hide new3
  have SZ3 := hide sz3
  have PL3 := hide pl3
  clear hve h hat own3 bel3 new3 sz3 pl3 hv
  go_enter Try.func13, Try.ntmps13
  go_wp2_with (first
    | (go_at_call 32; refine (pos_bin w b p HAT.out).mono ?_; rintro e w' ⟨rfl, hw⟩; subst w')
    | (at_builtin; refine list_out rfl (.tmp 8) (.tmp 10) rfl base v ps.length ps HVE.out.symm OWN3.out (w.heap.size + 1 + 1) p rfl NEW3.out (by omega) SZ3.out ?_; intro g cap w4 h1 h2 h3 h4; obtain ⟨k1, k2, k3, k4⟩ := clo_facts HO.out BEL3.out h2 PL3.out (.slice (some ⟨g, 0, none⟩) (ps.length + 1) cap); have ST := hide (clo_step HO.out BEL3.out OWN3.out h1 h2 h3); clear h1 h2 h3 h4))
  go_ret
  refine ⟨_, ?_, ST.out⟩
  have e : (p.1 != skip) = decide (p.1 ≠ skip) := by by_cases c : p.1 = skip <;> simp [c]
  simp [e]
end Go.Proofs.Qxb6616227a.Ins
