import Derived.Test.Qxb6616202aPNewA
import Derived.Test.Qxb6616202aPLaw
import Derived.Deep.DeepCutAuto
import Derived.Deep.CutRange
namespace Go.Proofs.Qxb6616202a.Prune
open Go.RowKit Go.Proofs.Qxb6616202a.Kit Go.Proofs.Qxb6616202a.Flow
set_option linter.unusedVariables false
set_option linter.unusedSimpArgs false

/-- The nodes on their way. -/
structure N1 (w : World) (nk nl nr : List Int) (i : Nat) (wr : World) : Prop where
  bel : Below w.heap.size w wr
  size : wr.heap.size = w.heap.size + 2
  vals : Vals wr w.heap.size (nk.length * 5) (nodeF nk nl nr i)
  hd : wr.cell? ⟨w.heap.size + 1, 0, none⟩ = some (.slice (some ⟨w.heap.size, 0, none⟩) nk.length nk.length)
/-- The first struct, with no entry yet. -/
structure N2 (w : World) (nk nl nr : List Int) (w7 : World) : Prop where
  bel : Below w.heap.size w w7
  size : w7.heap.size = w.heap.size + 4
  nodes : Nodes w7 w.heap.size nk nl nr
  h0 : w7.cell? ⟨w.heap.size + 1, 0, none⟩ = some (.slice (some ⟨w.heap.size, 0, none⟩) nk.length nk.length)
  m : w7.heap[w.heap.size + 2]? = some (.map #[] 0)
  s0 : w7.cell? ⟨w.heap.size + 3, 0, none⟩ = some (.pointer (some ⟨w.heap.size + 1, 0, none⟩))
  s3 : w7.cell? ⟨w.heap.size + 3, 3, none⟩ = some (.map (some (w.heap.size + 2)))
/-- The entries on their way. -/
structure N3 (w7 : World) (bM : Nat) (id : Int) (lk : List Int) (Ls : List (List Int)) (E : List Ent) (i : Nat) (wr : World) : Prop where
  only : Only w7 wr bM
  len : E.length = i
  ent : ∀ j (h : j < E.length), E[j].lock = lk.getD j 0 ∧ E[j].xs = Ls.getD j []
  hM : MapIs wr bM (E.map (kvOf id))
  hE : ∀ e ∈ E, EntOk wr e
  far : ∀ e ∈ E, e.xs ≠ [] → w7.heap.size ≤ e.g
  ee : E.Pairwise fun e f => e.xs ≠ [] → f.xs ≠ [] → e.g ≠ f.g
def lobj7 (id : Int) (bI m : Nat) (aK : Option Addr) (n cK : Nat) (st pr : Int) : Obj := .cells #[.int .i32 id, .slice (some ⟨bI, 0, none⟩) m m, .int .i64 m, .int .i64 0, .slice aK n cK, .int .i64 st, .int .i64 pr] 105 (0, 0)
/-- The list's struct, its items not yet filled. -/
structure N4 (w3 : World) (id : Int) (lk : List Int) (m : Nat) (st pr : Int) (bI bL gK cK : Nat) (aK : Option Addr) (rk : List Int) (wx : World) : Prop where
  bel : Below w3.heap.size w3 wx
  hI : wx.heap[bI]? = some (imade m)
  hL : wx.heap[bL]? = some (lobj7 id bI m aK lk.length cK st pr)
  hK : lk ≠ [] → aK = some ⟨gK, 0, none⟩ ∧ wx.heap[gK]? = some (.cells (irow .i32 rk) 21 (0, 0)) ∧ rk.length = cK ∧ lk.length ≤ cK ∧ rk.take lk.length = lk
  oI : w3.heap.size ≤ bI
  oL : w3.heap.size ≤ bL
  oK : w3.heap.size ≤ gK
  il : bI ≠ bL
  ik : bI ≠ gK
  lk : bL ≠ gK
def Cut4 (w3 : World) (id : Int) (lk : List Int) (m : Nat) (st pr : Int) (v : Value) (wx : World) : Prop := ∃ bI bL gK cK aK rk, v = .pointer (some ⟨bL, 0, none⟩) ∧ N4 w3 id lk m st pr bI bL gK cK aK rk wx

def NewTo (w : World) (nk nl nr : List Int) (id : Int) (lk : List Int) (Ls : List (List Int)) (il sl : List Int) (st pr : Int) (e : Ending) (w' : World) : Prop :=
  ∃ G E rk, e = .returned (.tuple #[.pointer (some ⟨G.bS, 0, none⟩), .pointer (some ⟨G.bL, 0, none⟩)]) ∧ Below w.heap.size w w' ∧ PState G w' E st pr rk ∧ FromArgs E lk Ls ∧ G.base = w.heap.size ∧ G.id = id ∧ G.nk = nk ∧ G.nl = nl ∧ G.nr = nr ∧ G.il = il ∧ G.sl = sl

theorem N3.miss {w7 : World} {bM : Nat} {id : Int} {lk : List Int} {Ls : List (List Int)} {E : List Ent} {i : Nat} {wr : World} (h : N3 w7 bM id lk Ls E i wr) (hlk : ∀ x ∈ lk, -2147483648 ≤ x ∧ x ≤ 2147483647) (hnd : lk.Nodup) (hi : i < lk.length) :
    ∀ p ∈ E.map (kvOf id), p.1 ≠ sk id (lk.getD i 0) := by
  intro p hp q
  obtain ⟨f, hf, rfl⟩ := List.mem_map.1 hp
  obtain ⟨j, hj, rfl⟩ := List.mem_iff_getElem.1 hf
  have hl := h.len
  have e := (h.ent j hj).1
  have hjl : j < lk.length := by omega
  have m1 := hlk _ (getD_mem lk j hjl)
  have m2 := hlk _ (getD_mem lk i hi)
  have q' : sk id (lk.getD j 0) = sk id (lk.getD i 0) := by rw [← e]; exact q
  have he : lk.getD j 0 = lk.getD i 0 := sk_inj id _ _ m1.1 m1.2 m2.1 m2.2 q'
  simp only [List.getD_eq_getElem?_getD, List.getElem?_eq_getElem hjl, List.getElem?_eq_getElem hi, Option.getD_some] at he
  exact (List.pairwise_iff_getElem.1 hnd) j i hjl hi (by omega) he
/-- One more entry. -/
theorem N3.step {w7 : World} {bM : Nat} {id : Int} {lk : List Int} {Ls : List (List Int)} {E : List Ent} {i : Nat} {wr W1 w2 : World} (h : N3 w7 bM id lk Ls E i wr) (e : Ent) (hl : e.lock = lk.getD i 0) (hx : e.xs = Ls.getD i [])
    (hb1 : Below wr.heap.size wr W1) (hb2 : But W1 w2 bM) (hm : MapIs w2 bM (E.map (kvOf id) ++ [kvOf id e])) (hok : EntOk w2 e) (hg : e.xs ≠ [] → e.g = wr.heap.size) (hMl : bM < w7.heap.size) : N3 w7 bM id lk Ls (E ++ [e]) (i + 1) w2 := by
  have hne : ∀ f ∈ E, f.xs ≠ [] → f.g < wr.heap.size := by
    intro f hf hx
    rcases h.hE f hf with r | r
    · exact absurd r.1 hx
    · exact obj_lt r.2.2.1
  have hkeep : ∀ b, b < wr.heap.size → b ≠ bM → w2.heap[b]? = wr.heap[b]? := fun b h1 h2 => (hb2.block b h2).trans (hb1.block b h1)
  refine ⟨(h.only.bel hb1).but hb2, by simp [h.len], ?_, by simpa using hm, ?_, ?_, ?_⟩
  · intro j hj
    by_cases c : j < E.length
    · rw [List.getElem_append_left c]; exact h.ent j c
    · have : j = E.length := by simp at hj; omega
      subst this
      rw [List.getElem_append_right (Nat.le_refl _)]
      simp only [Nat.sub_self, List.getElem_cons_zero]
      rw [h.len]; exact ⟨hl, hx⟩
  · intro f hf
    rw [List.mem_append] at hf
    rcases hf with hf | hf
    · exact (h.hE f hf).keep fun hx => hkeep _ (hne f hf hx) (by have := h.far f hf hx; omega)
    · simp at hf; subst hf; exact hok
  · intro f hf hx'
    rw [List.mem_append] at hf
    rcases hf with hf | hf
    · exact h.far f hf hx'
    · simp at hf; subst hf; rw [hg hx']; exact h.only.size
  · rw [List.pairwise_append]
    refine ⟨h.ee, by simp, ?_⟩
    intro f hf g hg'
    simp at hg'
    subst hg'
    intro h1 h2
    have := hne f hf h1
    rw [hg h2]; omega

/-- The state, put together. -/
theorem new_state {w w7 w3 wx wy : World} {nk nl nr : List Int} {id : Int} {lk : List Int} {Ls : List (List Int)} {il sl : List Int} {st pr : Int} {E : List Ent} {bI bL gK cK : Nat} {aK : Option Addr} {rk : List Int}
    (hN2 : N2 w nk nl nr w7) (hN3 : N3 w7 (w.heap.size + 2) id lk Ls E lk.length w3) (hN4 : N4 w3 id lk il.length st pr bI bL gK cK aK rk wx) (ho : Only wx wy bI) (hv : Vals wy bI (il.length * 14) (itemF il sl il.length 0))
    (hid : -2147483648 ≤ id ∧ id ≤ 2147483647) (hlk : ∀ x ∈ lk, -2147483648 ≤ x ∧ x ≤ 2147483647) (hnd : lk.Nodup) (e5 : Ls.length = lk.length) (hup : ∀ i, i < Ls.length → Rising (Ls.getD i [])) (hsum : offs Ls Ls.length ≤ 65536) (m4 : lk.length ≤ 4096) :
    NewTo w nk nl nr id lk Ls il sl st pr (.returned (.tuple #[.pointer (some ⟨w.heap.size + 3, 0, none⟩), .pointer (some ⟨bL, 0, none⟩)])) wy := by
  have hs7 := hN2.size
  have hs3 := hN3.only.size
  have hsx := hN4.bel.size
  have hsy := ho.size
  have oI := hN4.oI
  have oL := hN4.oL
  have oK := hN4.oK
  have hbI : bI < wx.heap.size := obj_lt hN4.hI
  have same : ∀ b, b < w7.heap.size → b ≠ w.heap.size + 2 → wy.heap[b]? = w7.heap[b]? := fun b h1 h2 => (ho.block b (by omega) (by omega)).trans ((hN4.bel.block b (by omega)).trans (hN3.only.block b h1 h2))
  have same3 : ∀ b, b < w3.heap.size → wy.heap[b]? = w3.heap[b]? := fun b h1 => (ho.block b (by omega) (by omega)).trans (hN4.bel.block b h1)
  have hcell : ∀ b o v, b ≠ w.heap.size + 2 → w7.cell? ⟨b, o, none⟩ = some v → wy.cell? ⟨b, o, none⟩ = some v := fun b o v hb hc => (World.cell?_of_block (a := ⟨b, o, none⟩) (same b (cell_lt hc) hb)).trans hc
  have hFA : FromArgs E lk Ls := ⟨hN3.len, fun i h => (hN3.ent i h).1, fun i h => (hN3.ent i h).2⟩
  have hlocks : E.map (·.lock) = lk := by
    apply List.ext_getElem
    · simp [hN3.len]
    · intro i h1 h2
      have := (hN3.ent i (by simpa using h1)).1
      simp only [List.getElem_map, this]
      simp [List.getD, h2]
  have bel : Below w.heap.size w wy := Only.below ((Only.below hN2.bel hN3.only (by omega) (by omega)).trans (hN4.bel.mono (by omega))) ho (by omega) (by omega)
  have hEn : E ≠ [] → lk ≠ [] := by
    intro h q
    rw [q] at hlocks
    exact h (by simpa using hlocks)
  refine ⟨⟨w.heap.size, w.heap.size + 3, bL, w.heap.size + 2, w.heap.size + 1, w.heap.size, bI, gK, cK, aK, id, il.length, 0, nk, nl, nr, il, sl, fun _ => False⟩, E, rk, rfl, bel, ?_, hFA, rfl, rfl, rfl, rfl, rfl, rfl, rfl⟩
  have hgl : ∀ e ∈ E, e.xs ≠ [] → w7.heap.size ≤ e.g ∧ e.g < w3.heap.size := by
    intro e he hx
    refine ⟨hN3.far e he hx, ?_⟩
    rcases hN3.hE e he with r | r
    · exact absurd r.1 hx
    · exact obj_lt r.2.2.1
  have x0 := hcell (w.heap.size + 3) _ _ (by omega) hN2.s0
  have x3 := hcell (w.heap.size + 3) _ _ (by omega) hN2.s3
  have xh := hcell (w.heap.size + 1) _ _ (by omega) hN2.h0
  have xn : Nodes wy w.heap.size nk nl nr := by
    intro i hi
    have q := hN2.nodes i hi
    exact ⟨hcell w.heap.size _ _ (by omega) q.c0, hcell w.heap.size _ _ (by omega) q.c1, hcell w.heap.size _ _ (by omega) q.c2, hcell w.heap.size _ _ (by omega) q.c3, hcell w.heap.size _ _ (by omega) q.c4⟩
  refine ⟨?_, ?_, ?_, ?_, ?_, ?_, ?_, ?_, ?_, ?_, ?_⟩
  · exact ⟨x0, x3, xh, xn, item_done hv, by show w.heap.size < _; omega, by show bI < _; omega, fun b hb => hb.elim⟩
  · show wy.heap[bL]? = _
    rw [ho.block bL (obj_lt hN4.hL) (fun q => hN4.il q.symm), hN4.hL, ← hN3.len]
    rfl
  · exact hN3.hM.same (same3 _ (by show w.heap.size + 2 < _; omega))
  · intro e he
    exact (hN3.hE e he).keep fun hx => same3 _ (hgl e he hx).2
  · intro hn
    obtain ⟨k1, k2, k3, k4, k5⟩ := hN4.hK (hEn hn)
    refine ⟨k1, ?_, k3, by rw [hN3.len]; exact k4, by rw [hN3.len, hlocks]; exact k5⟩
    show wy.heap[gK]? = _
    rw [ho.block gK (obj_lt k2) (fun q => hN4.ik q.symm)]; exact k2
  · have il := hN4.il
    have ik := hN4.ik
    have lkk := hN4.lk
    refine ⟨?_, ?_, ?_, ?_, ?_, ?_, ?_, ?_, ?_, ?_, hN3.ee⟩
    · rintro (q | q | q | q | q) <;> simp at q <;> omega
    · rintro (q | q | q | q | q) <;> simp at q <;> omega
    · rintro (q | q | q | q | q) <;> simp at q <;> omega
    · show bL ≠ w.heap.size + 2; omega
    · exact lkk
    · show w.heap.size + 2 ≠ gK; omega
    · show w.heap.size ≤ bL; omega
    · show w.heap.size ≤ w.heap.size + 2; omega
    · show w.heap.size ≤ gK; omega
    · intro e he hx
      have := hgl e he hx
      refine ⟨?_, ?_, ?_, ?_, ?_⟩
      · rintro (q | q | q | q | q) <;> simp at q <;> omega
      · show e.g ≠ bL; omega
      · show e.g ≠ w.heap.size + 2; omega
      · show e.g ≠ gK; omega
      · show w.heap.size ≤ e.g; omega
  · rw [hlocks]; exact hnd
  · intro e he
    have : e.lock ∈ lk := by rw [← hlocks]; exact List.mem_map.2 ⟨e, he, rfl⟩
    exact hlk _ this
  · intro e he
    obtain ⟨i, hi, rfl⟩ := List.mem_iff_getElem.1 he
    rw [(hN3.ent i hi).2]
    exact hup i (by rw [e5, ← hN3.len]; exact hi)
  · have := sum_range (E := E) (fun e => e.xs.length) (fun k => (Ls.getD k []).length) E.length (Nat.le_refl _) (fun i hi => by rw [(hN3.ent i hi).2])
    rw [List.take_length] at this
    rw [this, hN3.len, ← e5]
    exact hsum
  · rw [hN3.len]; exact m4

section
variable {w3 wx : World} {id : Int} {lk : List Int} {m : Nat} {st pr : Int} {bI bL gK cK : Nat} {aK : Option Addr} {rk row : List Int} {cap : Nat}
theorem N4.drew (h : N4 w3 id lk m st pr bI bL gK cK aK rk wx) : N4 w3 id lk m st pr bI bL gK cK aK rk wx.drew :=
  ⟨h.bel.drew, h.hI, h.hL, h.hK, h.oI, h.oL, h.oK, h.il, h.ik, h.lk⟩
theorem al_heap {W : World} {b : Nat} {o v : Obj} (h : W.heap[b]? = some v) : (W.alloc o).heap[b]? = some v := by rw [Below.heap_alloc _ _ _ (obj_lt h)]; exact h
theorem N4.make_first (hr1 : row.length = cap) (hr2 : lk.length ≤ cap) (hr3 : row.take lk.length = lk) :
    N4 w3 id lk m st pr w3.heap.size (w3.heap.size + 1 + 1) (w3.heap.size + 1) cap (some ⟨w3.heap.size + 1, 0, none⟩) row
      (((w3.alloc (imade m)).alloc (.cells (irow .i32 row) 21)).alloc (lobj7 id w3.heap.size m (some ⟨w3.heap.size + 1, 0, none⟩) lk.length cap st pr)) := by
  have s1 : (w3.alloc (imade m)).heap.size = w3.heap.size + 1 := by simp
  have s2 : ((w3.alloc (imade m)).alloc (.cells (irow .i32 row) 21)).heap.size = w3.heap.size + 1 + 1 := by simp
  have x2 : ((w3.alloc (imade m)).alloc (.cells (irow .i32 row) 21)).heap[w3.heap.size + 1]? = some (.cells (irow .i32 row) 21 (0, 0)) := by rw [← s1]; exact heap_alloc_new _ _
  refine ⟨(((Below.refl _ _).alloc (Nat.le_refl _) _).alloc (by omega) _).alloc (by omega) _, al_heap (al_heap (heap_alloc_new _ _)), ?_, fun _ => ⟨rfl, al_heap x2, hr1, hr2, hr3⟩, Nat.le_refl _, by omega, by omega, by omega, by omega, by omega⟩
  rw [← s2]; exact heap_alloc_new _ _
theorem N4.append_first (hr1 : row.length = cap) (hr2 : lk.length ≤ cap) (hr3 : row.take lk.length = lk) :
    N4 w3 id lk m st pr (w3.heap.size + 1) (w3.heap.size + 1 + 1) w3.heap.size cap (some ⟨w3.heap.size, 0, none⟩) row
      (((w3.alloc (.cells (irow .i32 row) 21)).alloc (imade m)).alloc (lobj7 id (w3.heap.size + 1) m (some ⟨w3.heap.size, 0, none⟩) lk.length cap st pr)) := by
  have s1 : (w3.alloc (.cells (irow .i32 row) 21)).heap.size = w3.heap.size + 1 := by simp
  have s2 : ((w3.alloc (.cells (irow .i32 row) 21)).alloc (imade m)).heap.size = w3.heap.size + 1 + 1 := by simp
  have x2 : ((w3.alloc (.cells (irow .i32 row) 21)).alloc (imade m)).heap[w3.heap.size + 1]? = some (imade m) := by rw [← s1]; exact heap_alloc_new _ _
  refine ⟨(((Below.refl _ _).alloc (Nat.le_refl _) _).alloc (by omega) _).alloc (by omega) _, al_heap x2, ?_, fun _ => ⟨rfl, al_heap (al_heap (heap_alloc_new _ _)), hr1, hr2, hr3⟩, by omega, by omega, by omega, by omega, by omega, by omega⟩
  rw [← s2]; exact heap_alloc_new _ _
theorem N4.no_locks (h : lk = []) : N4 w3 id lk m st pr w3.heap.size (w3.heap.size + 1) (w3.heap.size + 2) 0 none [] ((w3.alloc (imade m)).alloc (lobj7 id w3.heap.size m none 0 0 st pr)) := by
  have s1 : (w3.alloc (imade m)).heap.size = w3.heap.size + 1 := by simp
  subst h
  refine ⟨((Below.refl _ _).alloc (Nat.le_refl _) _).alloc (by omega) _, al_heap (heap_alloc_new _ _), ?_, fun h => absurd rfl h, by omega, by omega, by omega, by omega, by omega, by omega⟩
  rw [← s1]; exact heap_alloc_new _ _
end
theorem size_set (W : World) (a : Addr) (v : Value) : (W.setCell a v).heap.size = W.heap.size := by simp [World.setCell]
theorem cell_other {W : World} {b c o p : Nat} {u v : Value} (hb : c ≠ b) (h : W.cell? ⟨c, p, none⟩ = some v) : (W.setCell ⟨b, o, none⟩ u).cell? ⟨c, p, none⟩ = some v :=
  (World.cell?_of_block (a := ⟨c, p, none⟩) (heap_set_other (w := W) (a := ⟨b, o, none⟩) (u := u) (b := c) hb)).trans h
theorem N1.step {w wr : World} {nk nl nr : List Int} {i : Nat} (h : N1 w nk nl nr i wr) :
    N1 w nk nl nr (i + 1) ((((((wr.setCell ⟨w.heap.size, i * 5, none⟩ (.int .i32 (nk.getD i 0))).setCell ⟨w.heap.size, i * 5 + 1, none⟩ (.int .i32 (nl.getD i 0))).setCell ⟨w.heap.size, i * 5 + 2, none⟩ (.int .i32 (nr.getD i 0))).setCell ⟨w.heap.size, i * 5 + 3, none⟩ (.int .i32 0)).setCell ⟨w.heap.size, i * 5 + 4, none⟩ (.int .u64 0)).drew) := by
  have v := node_set h.vals
  have b := ((((h.bel.setCell (p := ⟨w.heap.size, i * 5, none⟩) (Nat.le_refl _) (.int .i32 (nk.getD i 0))).setCell (p := ⟨w.heap.size, i * 5 + 1, none⟩) (Nat.le_refl _) (.int .i32 (nl.getD i 0))).setCell (p := ⟨w.heap.size, i * 5 + 2, none⟩) (Nat.le_refl _) (.int .i32 (nr.getD i 0))).setCell (p := ⟨w.heap.size, i * 5 + 3, none⟩) (Nat.le_refl _) (.int .i32 0)).setCell (p := ⟨w.heap.size, i * 5 + 4, none⟩) (Nat.le_refl _) (.int .u64 0)
  have ne : w.heap.size + 1 ≠ w.heap.size := by omega
  have c := cell_other (o := i * 5 + 4) (u := .int .u64 0) ne (cell_other (o := i * 5 + 3) (u := .int .i32 0) ne (cell_other (o := i * 5 + 2) (u := .int .i32 (nr.getD i 0)) ne (cell_other (o := i * 5 + 1) (u := .int .i32 (nl.getD i 0)) ne (cell_other (o := i * 5) (u := .int .i32 (nk.getD i 0)) ne h.hd))))
  have s : (((((wr.setCell ⟨w.heap.size, i * 5, none⟩ (.int .i32 (nk.getD i 0))).setCell ⟨w.heap.size, i * 5 + 1, none⟩ (.int .i32 (nl.getD i 0))).setCell ⟨w.heap.size, i * 5 + 2, none⟩ (.int .i32 (nr.getD i 0))).setCell ⟨w.heap.size, i * 5 + 3, none⟩ (.int .i32 0)).setCell ⟨w.heap.size, i * 5 + 4, none⟩ (.int .u64 0)).heap.size = w.heap.size + 2 := by
    rw [size_set, size_set, size_set, size_set, size_set]; exact h.size
  generalize World.setCell _ ⟨w.heap.size, i * 5 + 4, none⟩ (.int .u64 0) = W at *
  exact ⟨b.drew, s, v.same rfl, c⟩
structure N5 (wc : World) (bI : Nat) (il sl : List Int) (i s : Nat) (wr : World) : Prop where
  only : Only wc wr bI
  vals : Vals wr bI (il.length * 14) (itemF il sl i s)
theorem N5.set0 {wc wr : World} {bI : Nat} {il sl : List Int} {i : Nat} (h : N5 wc bI il sl i 0 wr) : N5 wc bI il sl i 1 (wr.setCell ⟨bI, i * 14, none⟩ (.int .i64 (il.getD i 0))).drew :=
  ⟨(Only.set h.only).drew, (item_set0 h.vals).same rfl⟩
theorem N5.set2 {wc wr : World} {bI : Nat} {il sl : List Int} {i : Nat} (h : N5 wc bI il sl i 1 wr) : N5 wc bI il sl i 2 (wr.setCell ⟨bI, i * 14 + 2, none⟩ (.int .i32 (sl.getD i 0))).drew :=
  ⟨(Only.set h.only).drew, (item_set2 h.vals).same rfl⟩
theorem N5.set4 {wc wr : World} {bI : Nat} {il sl : List Int} {i : Nat} (h : N5 wc bI il sl i 2 wr) : N5 wc bI il sl (i + 1) 0 (wr.setCell ⟨bI, i * 14 + 4, none⟩ (.bool true)) :=
  ⟨Only.set h.only, item_set4 h.vals⟩
theorem N5.at {wc wr : World} {bI : Nat} {il sl : List Int} {i s : Nat} (h : N5 wc bI il sl i s wr) (p : Nat) (hp : p < il.length * 14) : ∃ v, wr.cell? ⟨bI, p, none⟩ = some v ∧ wr.frozen? ⟨bI, p, none⟩ = false := ⟨_, h.vals p hp⟩
theorem N1.finish {w wr : World} {nk nl nr : List Int} (h : N1 w nk nl nr nk.length wr) (v1 v2 v4 : Value) : N2 w nk nl nr ((wr.alloc (.map #[] 0)).alloc (.cells #[.pointer (some ⟨w.heap.size + 1, 0, none⟩), v1, v2, .map (some (w.heap.size + 2)), v4] 102)) := by
  have hs := h.size
  refine ⟨(h.bel.alloc (by omega) _).alloc (by simp; omega) _, by simp; omega, (node_done h.vals).below (B := w.heap.size + 2) (((Below.refl _ _).alloc (by omega) _).alloc (by simp; omega) _) (by omega), al_cell (al_cell h.hd _) _, ?_, ?_, ?_⟩
  · rw [Below.heap_alloc _ _ _ (by simp; omega), ← hs]; exact heap_alloc_new wr _
  · have : w.heap.size + 3 = (wr.alloc (.map #[] 0)).heap.size := by simp; omega
    rw [this, cell_of_row _ _ _ _ _ _ (heap_alloc_new _ _)]; rfl
  · have : w.heap.size + 3 = (wr.alloc (.map #[] 0)).heap.size := by simp; omega
    rw [this, cell_of_row _ _ _ _ _ _ (heap_alloc_new _ _)]; rfl
end Go.Proofs.Qxb6616202a.Prune
