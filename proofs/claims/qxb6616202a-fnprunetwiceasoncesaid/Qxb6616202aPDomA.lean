import Derived.Test.Qxb6616202aPMath
import Derived.Test.Qxb6616202aSwapW
namespace Go.Proofs.Qxb6616202a.Prune
open Go.RowKit Go.Proofs.Qxb6616202a.Kit Go.Proofs.Qxb6616202a.Flow
set_option linter.unusedVariables false
set_option linter.unusedSimpArgs false

/-- A slice of slices of ints that came in. -/
def RdL (w : World) (a : Option Addr) (Ls : List (List Int)) : Prop := ∀ i, i < Ls.length → ∃ b off ai ci, a = some ⟨b, off, none⟩ ∧ w.cell? ⟨b, off + i, none⟩ = some (.slice ai (Ls.getD i []).length ci) ∧ Rd .i64 w ai (Ls.getD i [])
theorem RdL.below {w w' : World} {a : Option Addr} {Ls : List (List Int)} (h : RdL w a Ls) (hb : Below w.heap.size w w') : RdL w' a Ls := by
  intro i hi
  obtain ⟨b, off, ai, ci, e, hc, hr⟩ := h i hi
  exact ⟨b, off, ai, ci, e, Below.seen hb (cell_lt hc) hc, hr.below hb⟩

/-- A row of bools of the call's own. -/
def OwnB (w : World) (b : Nat) (fs : List Bool) : Prop := ∀ j, j < fs.length → w.cell? ⟨b, j, none⟩ = some (.bool (fs.getD j false)) ∧ w.frozen? ⟨b, j, none⟩ = false
theorem OwnB.same {w w' : World} {b : Nat} {fs : List Bool} (h : OwnB w b fs) (hb : w'.heap[b]? = w.heap[b]?) : OwnB w' b fs := fun j hj =>
  ⟨(World.cell?_of_block (w := w) (w' := w') (a := ⟨b, j, none⟩) hb).trans (h j hj).1, (World.frozen?_of_block (w := w) (w' := w') (a := ⟨b, j, none⟩) hb).trans (h j hj).2⟩
theorem OwnB.below {w w' : World} {B b : Nat} {fs : List Bool} (h : OwnB w b fs) (hb : Below B w w') (hB : b < B) : OwnB w' b fs := h.same (hb.block b hB)
theorem OwnB.set {w : World} {b : Nat} {fs : List Bool} (h : OwnB w b fs) (i : Nat) (v : Bool) (hi : i < fs.length) : OwnB (w.setCell ⟨b, i, none⟩ (.bool v)) b (fs.set i v) := by
  intro j hj
  have hj' : j < fs.length := by simpa using hj
  refine ⟨?_, by rw [froz_set]; exact (h j hj').2⟩
  rw [cell_set w b i j _ _ (h j hj').1]
  have : (fs.set i v).getD j false = if j = i then v else fs.getD j false := by
    simp only [List.getD_eq_getElem?_getD, List.getElem?_set]
    by_cases e : i = j
    · subst e; simp [hi]
    · have e' : ¬ j = i := fun q => e q.symm
      simp [e, e']
  rw [this]
  split <;> rfl
theorem Try.info4 : (Try.prog.info? 4).map (fun i => (i.zero, i.size, i.bytes)) = some (some (.bool false), 1, 1) := by kernel_rfl
def brow (c : Nat) : Array Value := ((List.replicate c false).map Value.bool).toArray
theorem makeB (c : Nat) (hc : c ≤ 1000000) (w : World) :
    (Instr.makeSlice 42 (.int .i64 (c : Int)) (.int .i64 (c : Int))).run Try.prog w = .ok (.slice (some ⟨w.heap.size, 0, none⟩) c c) (w.alloc (.cells (brow c) 4)) := by
  obtain ⟨i0, hi, hz0, hz1, hz2⟩ := info_parts Try.info4
  have h := run_make (P := Try.prog) w 42 4 i0 (.bool false) Try.underlying42 hi hz0 .i64 .i64 c c (by omega) (by omega) (by rw [hz2]; omega) (by omega)
  have e : madeCells (Value.bool false).cells c = brow c := by
    apply Array.ext_getElem?
    intro i
    simp only [madeCells, brow, Value.cells]
    by_cases h : i < c
    · simp [h, Nat.mod_one]
    · simp [h]
  rw [hz1, Nat.mul_one, Int.toNat_natCast, e] at h
  exact h
theorem ownB_made (w : World) (c : Nat) : OwnB (w.alloc (.cells (brow c) 4)) w.heap.size (List.replicate c false) := by
  intro j hj
  have hj' : j < c := by simpa using hj
  have hh := heap_alloc_new w (.cells (brow c) 4)
  refine ⟨?_, froz_row hh⟩
  rw [cell_of_row _ _ j _ 4 _ hh]
  simp [brow, List.getD, hj']

/-- What the domain's check has shown. -/
structure Dom (nk nl nr lk : List Int) (Ls : List (List Int)) (il sl : List Int) : Prop where
  l1 : nl.length = nk.length
  l2 : nr.length = nk.length
  l3 : Ls.length = lk.length
  l4 : sl.length = il.length
  tree : ∃ lo hi, Tree nk nl nr lo hi
  sets : ∀ i, i < il.length → sl.getD i 0 = 0 ∨ (0 ≤ sl.getD i 0 ∧ sl.getD i 0 < nk.length)
  rise : Rising il
  locks : ∀ i j, j < i → i < lk.length → lk.getD j 0 ≠ lk.getD i 0
  lines : ∀ i, i < lk.length → Rising (Ls.getD i [])

def PDom (nk nl nr lk : List Int) (Ls : List (List Int)) (il sl : List Int) (w : World) (e : Ending) (w' : World) : Prop :=
  Below w.heap.size w w' ∧ (e = .returned (.tuple #[.slice none 0 0, .bool false]) ∨ ∃ b, e = .returned (.tuple #[.slice (some ⟨b, 0, none⟩) (offs Ls lk.length) (offs Ls lk.length), .bool true]) ∧ Dom nk nl nr lk Ls il sl ∧ w.heap.size ≤ b ∧ b < w'.heap.size ∧ OwnB w' b (done nk nl nr il sl lk Ls lk.length))
theorem PDom.no {nk nl nr lk : List Int} {Ls : List (List Int)} {il sl : List Int} {w w' : World} (h : Below w.heap.size w w') : PDom nk nl nr lk Ls il sl w (.returned (.tuple #[.slice none 0 0, .bool false])) w' := ⟨h, .inl rfl⟩

/-- The trees, as far as they have been checked. -/
def TreeTo (nk nl nr lo hi : List Int) (n : Nat) : Prop := ∀ s, 1 ≤ s → s < n → (0 ≤ nl.getD s 0 ∧ nl.getD s 0 < s ∧ 0 ≤ nr.getD s 0 ∧ nr.getD s 0 < s) ∧
  lo.getD s 0 = (if nl.getD s 0 = 0 then nk.getD s 0 else lo.getD (nl.getD s 0).toNat 0) ∧ hi.getD s 0 = (if nr.getD s 0 = 0 then nk.getD s 0 else hi.getD (nr.getD s 0).toNat 0) ∧
  (nl.getD s 0 ≠ 0 → hi.getD (nl.getD s 0).toNat 0 < nk.getD s 0) ∧ (nr.getD s 0 ≠ 0 → nk.getD s 0 < lo.getD (nr.getD s 0).toNat 0)
theorem TreeTo.tree {nk nl nr lo hi : List Int} (h : TreeTo nk nl nr lo hi nk.length) : Tree nk nl nr lo hi :=
  ⟨fun s a b => (h s a b).1, fun s a b => (h s a b).2.1, fun s a b => (h s a b).2.2.1, fun s a b => (h s a b).2.2.2.1, fun s a b => (h s a b).2.2.2.2⟩
theorem TreeTo.step {nk nl nr lo hi : List Int} {t : Nat} (h : TreeTo nk nl nr lo hi t) (h1 : 1 ≤ t) (ll : t < lo.length) (lh : t < hi.length) (l r : Nat) (hl : nl.getD t 0 = l) (hr : nr.getD t 0 = r) (bl : l < t) (br : r < t)
    (g1 : l ≠ 0 → hi.getD l 0 < nk.getD t 0) (g2 : r ≠ 0 → nk.getD t 0 < lo.getD r 0) :
    TreeTo nk nl nr (lo.set t (if l = 0 then nk.getD t 0 else lo.getD l 0)) (hi.set t (if r = 0 then nk.getD t 0 else hi.getD r 0)) (t + 1) := by
  intro s hs1 hs2
  by_cases c : s = t
  · subst c
    rw [hl, hr]
    simp only [Int.toNat_natCast]
    rw [FM.getD_set _ _ _ _ ll, FM.getD_set _ _ _ _ ll, FM.getD_set _ _ _ _ lh, FM.getD_set _ _ _ _ lh, FM.getD_set _ _ _ _ lh, FM.getD_set _ _ _ _ ll, if_pos rfl, if_pos rfl, if_neg (show ¬ l = s by omega), if_neg (show ¬ r = s by omega)]
    refine ⟨by omega, ?_, ?_, fun q => by rw [if_neg (show ¬ l = s by omega)]; exact g1 (by omega), fun q => by rw [if_neg (show ¬ r = s by omega)]; exact g2 (by omega)⟩
    · by_cases z : l = 0
      · rw [if_pos z, if_pos (by omega)]
      · rw [if_neg z, if_neg (by omega)]
    · by_cases z : r = 0
      · rw [if_pos z, if_pos (by omega)]
      · rw [if_neg z, if_neg (by omega)]
  · have hh := h s hs1 (by omega)
    have d := hh.1
    rw [FM.getD_set _ _ _ _ ll, FM.getD_set _ _ _ _ ll, FM.getD_set _ _ _ _ lh, FM.getD_set _ _ _ _ lh, FM.getD_set _ _ _ _ lh, FM.getD_set _ _ _ _ ll, if_neg c, if_neg c,
      if_neg (show ¬ (nl.getD s 0).toNat = t by omega), if_neg (show ¬ (nr.getD s 0).toNat = t by omega), if_neg (show ¬ (nl.getD s 0).toNat = t by omega), if_neg (show ¬ (nr.getD s 0).toNat = t by omega)]
    exact hh
end Go.Proofs.Qxb6616202a.Prune
