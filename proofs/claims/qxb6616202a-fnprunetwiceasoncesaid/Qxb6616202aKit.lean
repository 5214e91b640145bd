import Derived.WalkKit
import Derived.WalkSpells
namespace Go.Proofs.Qxb6616202a.Kit
open Go.RowKit
set_option linter.unusedVariables false
set_option linter.unusedSimpArgs false

theorem hide {p : Prop} (h : p) : Hid p := h
theorem unhide {p : Prop} (h : Hid p) : p := h
theorem getD_mem (xs : List Int) (k : Nat) (h : k < xs.length) : xs.getD k 0 ∈ xs := by
  simp [List.getD, h]

/-- The cells of a row of integers. -/
def irow (k : IntKind) (xs : List Int) : Array Value := (xs.map (Value.int k)).toArray
theorem irow_size (k : IntKind) (xs : List Int) : (irow k xs).size = xs.length := by simp [irow]
theorem irow_get (k : IntKind) (xs : List Int) (j : Nat) (h : j < xs.length) : (irow k xs)[j]? = some (.int k (xs.getD j 0)) := by
  simp [irow, List.getD, h]
theorem irow_set (k : IntKind) (xs : List Int) (j : Nat) (v : Int) : (irow k xs).setIfInBounds j (.int k v) = irow k (xs.set j v) := by
  simp [irow, List.map_set]

/-- Block b is a whole row of integers, written by the call itself. -/
def Blk (k : IntKind) (t : TypeId) (w : World) (b : Nat) (xs : List Int) : Prop := w.heap[b]? = some (.cells (irow k xs) t (0, 0))

section
variable {k : IntKind} {t : TypeId} {w : World} {b : Nat} {xs : List Int}
theorem Blk.lt (h : Blk k t w b xs) : b < w.heap.size := (Array.getElem?_eq_some_iff.1 h).1
theorem Blk.cell (h : Blk k t w b xs) (j : Nat) (hj : j < xs.length) : w.cell? ⟨b, j, none⟩ = some (.int k (xs.getD j 0)) := by
  rw [cell_of_row w b j _ t _ h, irow_get k xs j hj]
theorem Blk.froz (h : Blk k t w b xs) (j : Nat) : w.frozen? ⟨b, j, none⟩ = false := by
  unfold Blk at h
  simp [World.frozen?, h]
theorem Blk.set (h : Blk k t w b xs) (j : Nat) (v : Int) : Blk k t (w.setCell ⟨b, j, none⟩ (.int k v)) b (xs.set j v) := by
  unfold Blk at h ⊢
  simp [World.setCell, Array.getElem?_modify, h, irow_set]
theorem heap_set_other {w : World} {a : Addr} {u : Value} {b : Nat} (h : b ≠ a.block) : (w.setCell a u).heap[b]? = w.heap[b]? := Below.heap_setCell w a u b h
theorem Blk.other (h : Blk k t w b xs) {a : Addr} (u : Value) (hb : b ≠ a.block) : Blk k t (w.setCell a u) b xs := by
  unfold Blk at h ⊢
  rw [heap_set_other hb]; exact h
theorem Blk.same {w' : World} (h : Blk k t w b xs) (hb : w'.heap[b]? = w.heap[b]?) : Blk k t w' b xs := by
  unfold Blk at h ⊢
  rw [hb]; exact h
theorem Blk.below {w' : World} {B : Nat} (h : Blk k t w b xs) (hb : Below B w w') (hB : b < B) : Blk k t w' b xs := h.same (hb.block b hB)
theorem Blk.drew (h : Blk k t w b xs) : Blk k t w.drew b xs := h
theorem Blk.alloc (h : Blk k t w b xs) (o : Obj) : Blk k t (w.alloc o) b xs := h.same (Below.heap_alloc w o b h.lt)
end

def zrow (c : Nat) : Array Value := irow .i32 (List.replicate c 0)

theorem made_zero (c : Nat) (k : IntKind) : madeCells (Value.int k 0).cells c = irow k (List.replicate c 0) := by
  apply Array.ext_getElem?
  intro i
  simp only [madeCells, irow, Value.cells]
  by_cases h : i < c
  · simp [h, Nat.mod_one]
  · simp [h]

theorem Below.seen {B : Nat} {w w' : World} (hb : Below B w w') {b o : Nat} {v : Value} (hB : b < B) (h : w.cell? ⟨b, o, none⟩ = some v) : w'.cell? ⟨b, o, none⟩ = some v := (hb.cell (p := ⟨b, o, none⟩) hB).trans h
theorem cell_lt {w : World} {b o : Nat} {v : Value} (h : w.cell? ⟨b, o, none⟩ = some v) : b < w.heap.size := World.block_lt_of_cell? w ⟨b, o, none⟩ h

/-- The slice's elements lie behind its address. -/
def Rd (k : IntKind) (w : World) (a : Option Addr) (xs : List Int) : Prop := ∀ j, j < xs.length → ∃ b off, a = some ⟨b, off, none⟩ ∧ w.cell? ⟨b, off + j, none⟩ = some (.int k (xs.getD j 0))
theorem Rd.below {k : IntKind} {w w' : World} {a : Option Addr} {xs : List Int} (h : Rd k w a xs) (hb : Below w.heap.size w w') : Rd k w' a xs := by
  intro j hj
  obtain ⟨b, off, e, hc⟩ := h j hj
  exact ⟨b, off, e, Below.seen hb (cell_lt hc) hc⟩
theorem Blk.rd {k : IntKind} {t : TypeId} {w : World} {b : Nat} {xs : List Int} (h : Blk k t w b xs) : Rd k w (some ⟨b, 0, none⟩) xs := fun j hj => ⟨b, 0, rfl, by rw [Nat.zero_add]; exact h.cell j hj⟩

/-- The first cells of block b are the numbers xs, and may be written. -/
def Own (k : IntKind) (w : World) (b : Nat) (xs : List Int) : Prop := ∀ j, j < xs.length → w.cell? ⟨b, j, none⟩ = some (.int k (xs.getD j 0)) ∧ w.frozen? ⟨b, j, none⟩ = false
section
variable {k : IntKind} {w : World} {b : Nat} {xs : List Int}
theorem Blk.own {t : TypeId} (h : Blk k t w b xs) : Own k w b xs := fun j hj => ⟨h.cell j hj, h.froz j⟩
theorem Own.cell (h : Own k w b xs) (j : Nat) (hj : j < xs.length) : w.cell? ⟨b, j, none⟩ = some (.int k (xs.getD j 0)) := (h j hj).1
theorem Own.froz (h : Own k w b xs) (j : Nat) (hj : j < xs.length) : w.frozen? ⟨b, j, none⟩ = false := (h j hj).2
theorem Own.same {w' : World} (h : Own k w b xs) (hb : w'.heap[b]? = w.heap[b]?) : Own k w' b xs := fun j hj =>
  ⟨(World.cell?_of_block (w := w) (w' := w') (a := ⟨b, j, none⟩) hb).trans (h j hj).1, (World.frozen?_of_block (w := w) (w' := w') (a := ⟨b, j, none⟩) hb).trans (h j hj).2⟩
theorem Own.other (h : Own k w b xs) {a : Addr} (u : Value) (hb : b ≠ a.block) : Own k (w.setCell a u) b xs := h.same (heap_set_other hb)
theorem Own.below {w' : World} {B : Nat} (h : Own k w b xs) (hb : Below B w w') (hB : b < B) : Own k w' b xs := h.same (hb.block b hB)
theorem Own.rd (h : Own k w b xs) : Rd k w (some ⟨b, 0, none⟩) xs := fun j hj => ⟨b, 0, rfl, by rw [Nat.zero_add]; exact h.cell j hj⟩
theorem cell_set (w : World) (b i j : Nat) (v : Value) (u : Value) (h : w.cell? ⟨b, j, none⟩ = some u) : (w.setCell ⟨b, i, none⟩ v).cell? ⟨b, j, none⟩ = some (if j = i then v else u) := by
  simp only [World.cell?, World.setCell, Array.getElem?_modify] at h ⊢
  cases hh : w.heap[b]? with
  | none => simp [hh] at h
  | some o =>
    cases o with
    | cells c t fr =>
      simp [hh] at h ⊢
      by_cases e : j = i
      · subst e
        have hlt : j < c.size := (Array.getElem?_eq_some_iff.1 h).1
        simp [hlt]
      · have e' : ¬ i = j := fun q => e q.symm
        simp [e, e', h]
    | _ => simp [hh] at h
theorem froz_set (w : World) (a p : Addr) (v : Value) : (w.setCell a v).frozen? p = w.frozen? p := by
  simp only [World.frozen?, World.setCell, Array.getElem?_modify]
  by_cases e : a.block = p.block
  · simp only [e, if_true]
    cases hh : w.heap[p.block]? with
    | none => rfl
    | some o => cases o <;> rfl
  · simp [e]
theorem Own.set (h : Own k w b xs) (i : Nat) (v : Int) (hi : i < xs.length) : Own k (w.setCell ⟨b, i, none⟩ (.int k v)) b (xs.set i v) := by
  intro j hj
  have hj' : j < xs.length := by simpa using hj
  refine ⟨?_, by rw [froz_set]; exact h.froz j hj'⟩
  rw [cell_set w b i j _ _ (h.cell j hj')]
  have : (xs.set i v).getD j 0 = if j = i then v else xs.getD j 0 := by
    simp only [List.getD_eq_getElem?_getD, List.getElem?_set]
    by_cases e : i = j
    · subst e; simp [hi]
    · have e' : ¬ j = i := fun q => e q.symm
      simp [e, e']
  rw [this]
  split <;> rfl
theorem Own.news (h : Own k w b xs) (n : Nat) : ∀ j u, ((xs.take n).map (Value.int k))[j]? = some u → w.cell? ((⟨b, 0, none⟩ : Addr).add j) = some u := by
  intro j u hu
  have hadd : (⟨b, 0, none⟩ : Addr).add j = ⟨b, j, none⟩ := by unfold Addr.add; split <;> simp_all
  rw [hadd]
  rw [List.getElem?_map, Option.map_eq_some_iff] at hu
  obtain ⟨x, hx, rfl⟩ := hu
  rw [List.getElem?_take] at hx
  split at hx
  · have hj : j < xs.length := (List.getElem?_eq_some_iff.1 hx).1
    rw [h.cell j hj]
    simp [List.getD, hx]
  · cases hx
theorem ints_one (k : IntKind) (xs : List Int) : ∀ u ∈ xs.map (Value.int k), u.oneCell' = true := by
  intro u hu
  obtain ⟨x, _, rfl⟩ := List.mem_map.1 hu
  rfl
/-- What an append has left, as a row that may be written. -/
theorem own_of_ownsRow {base n : Nat} {t : TypeId} {v : Value} (h : w.ownsRow base t 1 v n (xs.map (Value.int k))) (hb : base ≤ w.heap.size) : ∃ aN bN cN, v = .slice aN n cN ∧ (0 < n → aN = some ⟨bN, 0, none⟩) ∧ Own k w bN xs ∧ base ≤ bN ∧ (0 < n → bN < w.heap.size) ∧ n ≤ cN := by
  obtain ⟨hl, h | ⟨g, cap, cur, rfl, hg, hh, hn, _, hs, ht⟩⟩ := h
  · obtain ⟨rfl, rfl⟩ := h
    have hx : xs = [] := by simpa using hl
    subst hx
    exact ⟨none, base, 0, rfl, fun h => absurd h (by omega), fun j hj => by simp at hj, Nat.le_refl _, fun h => absurd h (by omega), Nat.le_refl _⟩
  · refine ⟨_, g, cap, rfl, fun _ => rfl, fun j hj => ⟨?_, by simp [World.frozen?, hh]⟩, hg, fun _ => (Array.getElem?_eq_some_iff.1 hh).1, hn⟩
    rw [cell_of_row w g j cur t _ hh]
    have e := congrArg (fun l => l[j]?) ht
    simp only [List.getElem?_take, List.getElem?_map] at e
    have hl' : xs.length = n := by simpa using hl
    rw [if_pos (by omega)] at e
    simp only [Array.getElem?_toList] at e
    rw [e]
    simp [List.getD, hj]
end
theorem froz_row {w : World} {b i : Nat} {c : Array Value} {t : TypeId} (h : w.heap[b]? = some (.cells c t (0, 0))) : w.frozen? ⟨b, i, none⟩ = false := by
  simp [World.frozen?, h]
theorem Rd.news {k : IntKind} {w : World} {ad : Addr} {xs : List Int} (h : Rd k w (some ad) xs) : ∀ j u, (xs.map (Value.int k))[j]? = some u → w.cell? (ad.add j) = some u := by
  intro j u hu
  rw [List.getElem?_map, Option.map_eq_some_iff] at hu
  obtain ⟨x, hx, rfl⟩ := hu
  have hj : j < xs.length := (List.getElem?_eq_some_iff.1 hx).1
  obtain ⟨b, off, e, hc⟩ := h j hj
  obtain rfl : ad = ⟨b, off, none⟩ := by simpa using e
  have hadd : (⟨b, off, none⟩ : Addr).add j = ⟨b, off + j, none⟩ := by unfold Addr.add; split <;> simp_all
  rw [hadd, hc]
  simp [List.getD, hx]

theorem Rd.none_nil {k : IntKind} {w : World} {xs : List Int} (h : Rd k w none xs) : xs = [] := by
  cases xs with
  | nil => rfl
  | cons x xs => obtain ⟨_, _, e, _⟩ := h 0 (by simp); cases e

theorem Rd.take {k : IntKind} {w : World} {a : Option Addr} {xs : List Int} (h : Rd k w a xs) (p : Nat) : Rd k w a (xs.take p) := by
  intro j hj
  have hj' : j < p ∧ j < xs.length := by simp at hj; omega
  obtain ⟨b, off, e, hc⟩ := h j hj'.2
  refine ⟨b, off, e, ?_⟩
  rw [hc]
  simp [List.getD_eq_getElem?_getD, hj'.1]
theorem Rd.drop {k : IntKind} {w : World} {a : Option Addr} {xs : List Int} (h : Rd k w a xs) (p c : Nat) (hx : xs.length ≤ c) : Rd k w (if c = p then a else a.map (·.add p)) (xs.drop p) := by
  intro j hj
  have hj' : p + j < xs.length := by simp at hj; omega
  obtain ⟨b, off, e, hc⟩ := h (p + j) hj'
  rw [if_neg (by omega), e]
  have hadd : (⟨b, off, none⟩ : Addr).add p = ⟨b, off + p, none⟩ := by unfold Addr.add; split <;> simp_all
  refine ⟨b, off + p, by simp [hadd], ?_⟩
  rw [Nat.add_assoc, hc]
  simp [List.getD_eq_getElem?_getD, List.getElem?_drop]
end Go.Proofs.Qxb6616202a.Kit
