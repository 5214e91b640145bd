import Derived.Test.Qxb6616202aPSpread
namespace Go.Proofs.Qxb6616202a.Prune
open Go.RowKit Go.Proofs.Qxb6616202a.Kit Go.Proofs.Qxb6616202a.Flow
set_option linter.unusedVariables false
set_option linter.unusedSimpArgs false

/-- The copy of the locks, on its way. -/
def lF (L : List Int) (k p : Nat) : Value := .int .i32 (if p < k then L.getD p 0 else 0)
theorem lF_start (w : World) (n : Nat) (L : List Int) : Vals (w.alloc (.cells (zrow n) 21)) w.heap.size n (lF L 0) := by
  refine Vals.made (heap_alloc_new w _) fun p hp => ?_
  unfold zrow
  rw [irow_get _ _ _ (by simpa using hp)]
  simp [lF, List.getD, hp]
theorem lF_set {w : World} {b n k : Nat} {L : List Int} (h : Vals w b n (lF L k)) : Vals (w.setCell ⟨b, k, none⟩ (.int .i32 (L.getD k 0))) b n (lF L (k + 1)) := by
  refine (h.set k _).congr fun p hp => ?_
  by_cases e : p = k
  · rw [if_pos e]; subst e; simp [lF]
  · rw [if_neg e]
    unfold lF
    have : p < k ↔ p < k + 1 := by omega
    simp [this]
theorem lF_at {w : World} {b n : Nat} {L : List Int} (h : Vals w b n (lF L n)) (p : Nat) (hp : p < n) : w.cell? ⟨b, p, none⟩ = some (.int .i32 (L.getD p 0)) := by
  have := (h p hp).1
  simpa [lF, hp] using this
def pF (F : Nat → List Int) (k p : Nat) : Value := .bool (if p < k then has (F p) else false)
def qF (F : Nat → List Int) (k p : Nat) : Value := .int .i64 (if p < k then ((F p).length : Int) else 0)
theorem pF_set {w : World} {b n k : Nat} {F : Nat → List Int} (h : Vals w b n (pF F k)) : Vals (w.setCell ⟨b, k, none⟩ (.bool (has (F k)))) b n (pF F (k + 1)) := by
  refine (h.set k _).congr fun p hp => ?_
  by_cases e : p = k
  · rw [if_pos e]; subst e; simp [pF]
  · rw [if_neg e]
    unfold pF
    have : p < k ↔ p < k + 1 := by omega
    simp [this]
theorem qF_set {w : World} {b n k : Nat} {F : Nat → List Int} (h : Vals w b n (qF F k)) : Vals (w.setCell ⟨b, k, none⟩ (.int .i64 ((F k).length : Nat))) b n (qF F (k + 1)) := by
  refine (h.set k _).congr fun p hp => ?_
  by_cases e : p = k
  · rw [if_pos e]; subst e; simp [qF]
  · rw [if_neg e]
    unfold qF
    have : p < k ↔ p < k + 1 := by omega
    simp [this]
theorem pF_at {w : World} {b n : Nat} {F : Nat → List Int} (h : Vals w b n (pF F n)) (p : Nat) (hp : p < n) : w.cell? ⟨b, p, none⟩ = some (.bool (has (F p))) := by
  have := (h p hp).1
  simpa [pF, hp] using this
theorem qF_at {w : World} {b n : Nat} {F : Nat → List Int} (h : Vals w b n (qF F n)) (p : Nat) (hp : p < n) : w.cell? ⟨b, p, none⟩ = some (.int .i64 ((F p).length : Nat)) := by
  have := (h p hp).1
  simpa [qF, hp] using this

/-- What the snapshot has of the first k locks. -/
structure L4 (w11 : World) (n : Nat) (F : Nat → List Int) (S : Nat → List Int) (k : Nat) (sv : Value) (wx : World) : Prop where
  bel : Below w11.heap.size w11 wx
  size : w11.heap.size + 2 ≤ wx.heap.size
  pres : Vals wx w11.heap.size n (pF F k)
  lens : Vals wx (w11.heap.size + 1) n (qF F k)
  snap : wx.ownsRow (w11.heap.size + 2) 3 1 sv (S k).length ((S k).map (Value.int .i64))
theorem L4.start (w11 : World) (n : Nat) (F S : Nat → List Int) (h0 : S 0 = []) : L4 w11 n F S 0 (.slice none 0 0) ((w11.alloc (.cells (brow n) 4)).alloc (.cells (zrow64 n) 3)) := by
  have s1 : (w11.alloc (.cells (brow n) 4)).heap.size = w11.heap.size + 1 := by simp
  refine ⟨((Below.refl _ _).alloc (Nat.le_refl _) _).alloc (by simp) _, by simp, ?_, ?_, ?_⟩
  · refine (Vals.made (w := w11.alloc (.cells (brow n) 4)) (b := w11.heap.size) (f := pF F 0) (heap_alloc_new w11 _) fun p hp => ?_).same (Below.heap_alloc _ _ _ (by simp))
    simp [brow, pF, hp]
  · rw [← s1]
    refine Vals.made (heap_alloc_new _ _) fun p hp => ?_
    unfold zrow64
    rw [irow_get _ _ _ (by simpa using hp)]
    simp [qF, List.getD, hp]
  · rw [h0]
    exact World.ownsRow_nil _ _ _ _
theorem L4.set1 {w11 wr : World} {n k : Nat} {F S : Nat → List Int} {sv : Value} (h : L4 w11 n F S k sv wr) (hk : k < n) (v : Value) :
    ∃ u, (wr.setCell ⟨w11.heap.size, k, none⟩ v).cell? ⟨w11.heap.size + 1, k, none⟩ = some u ∧ (wr.setCell ⟨w11.heap.size, k, none⟩ v).frozen? ⟨w11.heap.size + 1, k, none⟩ = false := by
  have h1 := h.lens.same (w' := wr.setCell ⟨w11.heap.size, k, none⟩ v) (heap_set_other (by show w11.heap.size + 1 ≠ w11.heap.size; omega))
  exact ⟨_, h1 k hk⟩
/-- The world behind the two stores. -/
def two (w11 wr : World) (k : Nat) (p : Bool) (m : Nat) : World := (wr.setCell ⟨w11.heap.size, k, none⟩ (.bool p)).setCell ⟨w11.heap.size + 1, k, none⟩ (.int .i64 (m : Int))
section
variable {w11 wr : World} {n k : Nat} {F S : Nat → List Int} {sv : Value} {p : Bool} {m : Nat}
theorem two_bel (h : L4 w11 n F S k sv wr) : Below w11.heap.size w11 (two w11 wr k p m) := (h.bel.setCell (Nat.le_refl _) _).setCell (by show w11.heap.size ≤ w11.heap.size + 1; omega) _
theorem two_size (h : L4 w11 n F S k sv wr) : w11.heap.size + 2 ≤ (two w11 wr k p m).heap.size := by unfold two; rw [size_set, size_set]; exact h.size
theorem two_own (h : L4 w11 n F S k sv wr) : (two w11 wr k p m).ownsRow (w11.heap.size + 2) 3 1 sv (S k).length ((S k).map (Value.int .i64)) :=
  ownsRow_setCell_below (ownsRow_setCell_below h.snap (by show w11.heap.size < w11.heap.size + 2; omega) _) (by show w11.heap.size + 1 < w11.heap.size + 2; omega) _
theorem L4.step (h : L4 w11 n F S k sv wr) (hp : has (F k) = p) (hm : (F k).length = m) (hS : S (k + 1) = S k ++ F k) {v' : Value} {w' : World}
    (own : w'.ownsRow (w11.heap.size + 2) 3 1 v' ((S k).length + m) ((S k ++ F k).map (Value.int .i64))) (bel : Below (w11.heap.size + 2) (two w11 wr k p m) w') (hB : w11.heap.size + 2 ≤ w'.heap.size) : L4 w11 n F S (k + 1) v' w' := by
  subst hp hm
  have ne1 : w11.heap.size ≠ w11.heap.size + 1 := by omega
  have ne2 : w11.heap.size + 1 ≠ w11.heap.size := by omega
  have v1 := (pF_set h.pres).same (w' := two w11 wr k (has (F k)) (F k).length) (heap_set_other ne1)
  have v2 := qF_set (h.lens.same (w' := wr.setCell ⟨w11.heap.size, k, none⟩ (.bool (has (F k)))) (heap_set_other ne2))
  refine ⟨(two_bel h).trans (bel.mono (by omega)), hB, v1.below bel (by omega), Vals.below (w := two w11 wr k (has (F k)) (F k).length) v2 bel (by omega), ?_⟩
  rw [hS, List.length_append]
  exact own
end
theorem snap_get {G : Geo} {E : List Ent} {k j : Nat} (hk : k < E.length) (hj : j < (fOf G E k).length) : (snapOf G E E.length).getD ((snapOf G E k).length + j) 0 = (fOf G E k).getD j 0 ∧ (snapOf G E k).length + j < (snapOf G E E.length).length := by
  have e : snapOf G E E.length = snapOf G E k ++ (fOf G E k ++ (E.drop (k + 1)).flatMap G.filt) := by
    unfold snapOf
    rw [List.take_length, fOf_lt hk]
    conv => lhs; rw [split_at hk]
    rw [List.flatMap_append, List.flatMap_cons]
  rw [e]
  constructor
  · simp only [List.getD_eq_getElem?_getD]
    rw [List.getElem?_append_right (by omega), show (snapOf G E k).length + j - (snapOf G E k).length = j by omega, List.getElem?_append_left hj]
  · simp only [List.length_append]; omega
/-- What a row of the snapshot reads, whatever its length. -/
theorem rd_of_ownsRow {w : World} {base n : Nat} {v : Value} {xs : List Int} (h : w.ownsRow base 3 1 v n (xs.map (Value.int .i64))) (hb : base ≤ w.heap.size) (hl : xs.length = n) :
    ∃ a c, v = .slice a n c ∧ ∀ w', (∀ b, base ≤ b → b < w.heap.size → w'.heap[b]? = w.heap[b]?) → Rd .i64 w' a xs := by
  obtain ⟨aN, bN, cN, rfl, h1, h2, h3, h4, h5⟩ := own_of_ownsRow h hb
  refine ⟨aN, cN, rfl, fun w' hk => ?_⟩
  by_cases c : 0 < n
  · rw [h1 c]
    exact (h2.same (hk bN h3 (h4 c))).rd
  · intro j hj; omega
end Go.Proofs.Qxb6616202a.Prune
