import Derived.Test.Qxb6616202aPSub
import Derived.Test.Qxb6616202aPItem
namespace Go.Proofs.Qxb6616202a.Prune
set_option linter.unusedVariables false
set_option linter.unusedSimpArgs false

/-! Items before a line. -/
theorem idx_cons (y : Int) (ys : List Int) (x : Int) : idx (y :: ys) x = idx ys x + if y < x then 1 else 0 := by simp [idx, List.countP_cons]
theorem idx_le (il : List Int) (x : Int) : idx il x ≤ il.length := List.countP_le_length
theorem rising_tail {y : Int} {ys : List Int} (h : Rising (y :: ys)) : Rising ys := fun i j hij hj => by
  have := h (i + 1) (j + 1) (by omega) (by simpa using hj)
  simpa using this
theorem rising_head {y : Int} {ys : List Int} (h : Rising (y :: ys)) (j : Nat) (hj : j < ys.length) : y < ys.getD j 0 := by
  have := h 0 (j + 1) (by omega) (by simpa using hj)
  simpa using this
theorem idx_zero {ys : List Int} {x : Int} (h : ∀ j, j < ys.length → ¬ ys.getD j 0 < x) : idx ys x = 0 := by
  unfold idx
  rw [List.countP_eq_zero]
  intro y hy
  obtain ⟨i, hi, rfl⟩ := List.mem_iff_getElem.1 hy
  have := h i hi
  simp [List.getD, hi] at this
  simp; omega
theorem idx_iff : ∀ (il : List Int), Rising il → ∀ (x : Int) (i : Nat), i < il.length → (il.getD i 0 < x ↔ i < idx il x) := by
  intro il
  induction il with
  | nil => intro _ x i hi; simp at hi
  | cons y ys ih =>
    intro h x i hi
    rw [idx_cons]
    by_cases c : y < x
    · rw [if_pos c]
      cases i with
      | zero => simp [c]
      | succ i =>
        have := ih (rising_tail h) x i (by simpa using hi)
        simp only [List.getD_cons_succ]
        omega
    · rw [if_neg c, idx_zero (fun j hj => by have := rising_head h j hj; omega)]
      cases i with
      | zero => simp [c]
      | succ i =>
        have := rising_head h i (by simpa using hi)
        simp only [List.getD_cons_succ]
        omega
theorem idx_mono (il : List Int) (x y : Int) (h : x ≤ y) : idx il x ≤ idx il y := by
  induction il with
  | nil => exact Nat.le_refl _
  | cons z zs ih =>
    rw [idx_cons, idx_cons]
    by_cases c : z < x
    · rw [if_pos c, if_pos (by omega)]; omega
    · rw [if_neg c]; omega

/-! Which beginnings are kept. -/
def Hold (nk nl nr sl : List Int) (x : Int) (k : Nat) : Bool := inSub nk nl nr x (nk.length + 1) (sl.getD k 0)
def keep (nk nl nr il sl : List Int) (x : Int) (xs : List Int) (j : Nat) : Bool :=
  decide (idx il (xs.getD j 0) < il.length) && (decide (j + 1 = xs.length) || decide (il.getD (idx il (xs.getD j 0)) 0 < xs.getD (j + 1) 0)) && Hold nk nl nr sl x (idx il (xs.getD j 0))
/-- Where the window of a beginning ends. -/
def wend (il xs : List Int) (j : Nat) : Nat := if j + 1 = xs.length then il.length else idx il (xs.getD (j + 1) 0)
theorem wend_le (il xs : List Int) (j : Nat) : wend il xs j ≤ il.length := by unfold wend; split; omega; exact idx_le _ _
theorem first_le {il xs : List Int} (hx : Rising xs) {j : Nat} (hj : j < xs.length) : idx il (xs.getD j 0) ≤ wend il xs j := by
  unfold wend
  split
  · exact idx_le _ _
  · exact idx_mono _ _ _ (Int.le_of_lt (hx j (j + 1) (by omega) (by omega)))
/-- The window's test. -/
theorem in_window {il xs : List Int} (hi : Rising il) {j p : Nat} (hj : j < xs.length) (hp : p < il.length) : (j + 1 = xs.length ∨ il.getD p 0 < xs.getD (j + 1) 0) ↔ p < wend il xs j := by
  unfold wend
  by_cases c : j + 1 = xs.length
  · rw [if_pos c]; simp [c, hp]
  · rw [if_neg c, idx_iff il hi _ p hp]; omega
/-- What the window has shown. -/
theorem keep_of {nk nl nr il sl : List Int} {x : Int} {xs : List Int} {j : Nat} (hi : Rising il) (hx : Rising xs) (hj : j < xs.length) (sv gv : Bool)
    (h1 : wend il xs j = idx il (xs.getD j 0) → sv = false) (h2 : idx il (xs.getD j 0) < wend il xs j → sv = Hold nk nl nr sl x (idx il (xs.getD j 0))) : sv = keep nk nl nr il sl x xs j := by
  unfold keep
  have hf := first_le (il := il) hx hj
  have hl := wend_le il xs j
  by_cases c : idx il (xs.getD j 0) < wend il xs j
  · rw [h2 c]
    have hw := (in_window hi hj (p := idx il (xs.getD j 0)) (by omega)).2 c
    have e1 : decide (idx il (xs.getD j 0) < il.length) = true := decide_eq_true (by omega)
    rw [e1]
    rcases hw with hw | hw
    · simp [hw]
    · rw [decide_eq_true hw]; simp
  · rw [h1 (by omega)]
    by_cases d : idx il (xs.getD j 0) < il.length
    · have hw := fun q => c ((in_window hi hj (p := idx il (xs.getD j 0)) d).1 q)
      have e1 : decide (j + 1 = xs.length) = false := decide_eq_false fun q => hw (.inl q)
      have e2 : decide (il.getD (idx il (xs.getD j 0)) 0 < xs.getD (j + 1) 0) = false := decide_eq_false fun q => hw (.inr q)
      rw [e1, e2]; simp
    · rw [decide_eq_false d]; rfl

/-! The flags. -/
def flagsOf (nk nl nr il sl : List Int) (x : Int) (xs : List Int) (n : Nat) : List Bool := (List.range n).map (keep nk nl nr il sl x xs)
def done (nk nl nr il sl lk : List Int) (Ls : List (List Int)) (i : Nat) : List Bool := (List.range i).flatMap fun k => flagsOf nk nl nr il sl (lk.getD k 0) (Ls.getD k []) (Ls.getD k []).length
def offs (Ls : List (List Int)) (i : Nat) : Nat := ((List.range i).map fun k => (Ls.getD k []).length).sum
theorem offs_succ (Ls : List (List Int)) (i : Nat) : offs Ls (i + 1) = offs Ls i + (Ls.getD i []).length := by
  unfold offs; rw [List.range_succ, List.map_append, List.sum_append]; simp
theorem offs_mono (Ls : List (List Int)) {i j : Nat} (h : i ≤ j) : offs Ls i ≤ offs Ls j := by
  obtain ⟨d, rfl⟩ : ∃ d, j = i + d := ⟨j - i, by omega⟩
  induction d with
  | zero => exact Nat.le_refl _
  | succ d ih => have := ih (by omega); rw [← Nat.add_assoc, offs_succ]; omega
theorem flagsOf_length (nk nl nr il sl : List Int) (x : Int) (xs : List Int) (n : Nat) : (flagsOf nk nl nr il sl x xs n).length = n := by simp [flagsOf]
theorem done_succ (nk nl nr il sl lk : List Int) (Ls : List (List Int)) (i : Nat) : done nk nl nr il sl lk Ls (i + 1) = done nk nl nr il sl lk Ls i ++ flagsOf nk nl nr il sl (lk.getD i 0) (Ls.getD i []) (Ls.getD i []).length := by
  unfold done; rw [List.range_succ, List.flatMap_append]; simp
theorem done_length (nk nl nr il sl lk : List Int) (Ls : List (List Int)) (i : Nat) : (done nk nl nr il sl lk Ls i).length = offs Ls i := by
  induction i with
  | zero => rfl
  | succ i ih => rw [done_succ, List.length_append, ih, flagsOf_length, offs_succ]
/-- The row of flags, on its way. -/
def FL (nk nl nr il sl lk : List Int) (Ls : List (List Int)) (tot i j : Nat) : List Bool :=
  done nk nl nr il sl lk Ls i ++ flagsOf nk nl nr il sl (lk.getD i 0) (Ls.getD i []) j ++ List.replicate (tot - offs Ls i - j) false
theorem FL_length {nk nl nr il sl lk : List Int} {Ls : List (List Int)} {tot i j : Nat} (h : offs Ls i + j ≤ tot) : (FL nk nl nr il sl lk Ls tot i j).length = tot := by
  unfold FL; simp only [List.length_append, done_length, flagsOf_length, List.length_replicate]; omega
theorem FL_start (nk nl nr il sl lk : List Int) (Ls : List (List Int)) (tot : Nat) : FL nk nl nr il sl lk Ls tot 0 0 = List.replicate tot false := by
  unfold FL done flagsOf offs; simp
theorem FL_step {nk nl nr il sl lk : List Int} {Ls : List (List Int)} {tot i j : Nat} (h : offs Ls i + j < tot) :
    (FL nk nl nr il sl lk Ls tot i j).set (offs Ls i + j) (keep nk nl nr il sl (lk.getD i 0) (Ls.getD i []) j) = FL nk nl nr il sl lk Ls tot i (j + 1) := by
  unfold FL
  obtain ⟨r, hr⟩ : ∃ r, tot - offs Ls i - j = r + 1 := ⟨tot - offs Ls i - j - 1, by omega⟩
  rw [hr, List.replicate_succ, show tot - offs Ls i - (j + 1) = r by omega]
  have e : flagsOf nk nl nr il sl (lk.getD i 0) (Ls.getD i []) (j + 1) = flagsOf nk nl nr il sl (lk.getD i 0) (Ls.getD i []) j ++ [keep nk nl nr il sl (lk.getD i 0) (Ls.getD i []) j] := by
    unfold flagsOf; rw [List.range_succ, List.map_append]; rfl
  have hl : (done nk nl nr il sl lk Ls i ++ flagsOf nk nl nr il sl (lk.getD i 0) (Ls.getD i []) j).length = offs Ls i + j := by rw [List.length_append, done_length, flagsOf_length]
  rw [e, List.set_append_right _ _ (by omega), hl, Nat.sub_self, List.set_cons_zero]
  simp [List.append_assoc]
theorem FL_next {nk nl nr il sl lk : List Int} {Ls : List (List Int)} {tot i : Nat} : FL nk nl nr il sl lk Ls tot i (Ls.getD i []).length = FL nk nl nr il sl lk Ls tot (i + 1) 0 := by
  unfold FL
  rw [done_succ, offs_succ, show tot - (offs Ls i + (Ls.getD i []).length) - 0 = tot - offs Ls i - (Ls.getD i []).length by omega]
  simp [flagsOf]
end Go.Proofs.Qxb6616202a.Prune
