/-
  The plain mathematics of an adjacency in compressed rows: counts, offsets, places. No Go in sight.
-/
namespace Go.Proofs.Qxb6616202a.FM
set_option linter.unusedVariables false
set_option linter.unusedSimpArgs false

def lt (xs : List Int) (j : Int) : Nat := xs.countP fun x => decide (x < j)
def eqc (xs : List Int) (v : Int) : Nat := xs.countP fun x => decide (x = v)
def pos (xs : List Int) (i : Nat) : Nat := lt xs (xs.getD i 0) + eqc (xs.take i) (xs.getD i 0)

theorem getD_set (F : List Int) (i j : Nat) (v : Int) (h : i < F.length) : (F.set i v).getD j 0 = if j = i then v else F.getD j 0 := by
  simp only [List.getD_eq_getElem?_getD, List.getElem?_set]
  by_cases e : i = j
  · subst e; simp [h]
  · have e' : ¬ j = i := fun q => e q.symm
    simp [e, e']

theorem lt_le (xs : List Int) (j : Int) : lt xs j ≤ xs.length := List.countP_le_length
theorem eqc_le (xs : List Int) (j : Int) : eqc xs j ≤ xs.length := List.countP_le_length

theorem lt_cons (x : Int) (xs : List Int) (j : Int) : lt (x :: xs) j = lt xs j + if x < j then 1 else 0 := by simp [lt, List.countP_cons]
theorem eqc_cons (x : Int) (xs : List Int) (j : Int) : eqc (x :: xs) j = eqc xs j + if x = j then 1 else 0 := by simp [eqc, List.countP_cons]
theorem lt_append (xs ys : List Int) (j : Int) : lt (xs ++ ys) j = lt xs j + lt ys j := by simp [lt, List.countP_append]
theorem eqc_append (xs ys : List Int) (j : Int) : eqc (xs ++ ys) j = eqc xs j + eqc ys j := by simp [eqc, List.countP_append]
theorem lt_nil (j : Int) : lt [] j = 0 := rfl
theorem eqc_nil (j : Int) : eqc [] j = 0 := rfl

theorem lt_succ (xs : List Int) (j : Int) : lt xs (j + 1) = lt xs j + eqc xs j := by
  induction xs with
  | nil => rfl
  | cons x xs ih =>
    rw [lt_cons, lt_cons, eqc_cons, ih]
    by_cases h1 : x < j
    · rw [if_pos h1, if_pos (by omega), if_neg (by omega)]; omega
    · by_cases h2 : x = j
      · rw [if_neg h1, if_pos (by omega), if_pos h2]; omega
      · rw [if_neg h1, if_neg (by omega), if_neg h2]; omega
theorem lt_mono (xs : List Int) (i j : Int) (h : i ≤ j) : lt xs i ≤ lt xs j := by
  induction xs with
  | nil => exact Nat.le_refl _
  | cons x xs ih =>
    rw [lt_cons, lt_cons]
    by_cases h1 : x < i
    · rw [if_pos h1, if_pos (by omega)]; omega
    · rw [if_neg h1]; omega
theorem lt_zero (xs : List Int) (h : ∀ j, j < xs.length → 0 ≤ xs.getD j 0) : lt xs 0 = 0 := by
  unfold lt
  rw [List.countP_eq_zero]
  intro x hx
  obtain ⟨i, hi, rfl⟩ := List.mem_iff_getElem.1 hx
  have := h i hi
  simp [List.getD, hi] at this
  simp; omega
theorem lt_all (xs : List Int) (n : Int) (h : ∀ j, j < xs.length → xs.getD j 0 < n) : lt xs n = xs.length := by
  unfold lt
  rw [List.countP_eq_length]
  intro x hx
  obtain ⟨i, hi, rfl⟩ := List.mem_iff_getElem.1 hx
  have := h i hi
  simp [List.getD, hi] at this
  simp; omega

theorem take_succ' (xs : List Int) (k : Nat) (h : k < xs.length) : xs.take (k + 1) = xs.take k ++ [xs.getD k 0] := by
  rw [List.take_succ_eq_append_getElem h]
  simp [List.getD, h]
theorem eqc_take_succ (xs : List Int) (k : Nat) (h : k < xs.length) (v : Int) : eqc (xs.take (k + 1)) v = eqc (xs.take k) v + if xs.getD k 0 = v then 1 else 0 := by
  rw [take_succ' xs k h, eqc_append, eqc_cons, eqc_nil]; omega
theorem eqc_take_mono (xs : List Int) (i j : Nat) (v : Int) (h : i ≤ j) : eqc (xs.take i) v ≤ eqc (xs.take j) v := by
  have e : xs.take i = (xs.take j).take i := by rw [List.take_take]; congr 1; omega
  rw [e]
  exact (List.take_sublist i (xs.take j)).countP_le
theorem eqc_take_le (xs : List Int) (i : Nat) (v : Int) : eqc (xs.take i) v ≤ eqc xs v := (List.take_sublist i xs).countP_le
theorem eqc_take_lt (xs : List Int) (i j : Nat) (h : i < j) (hi : i < xs.length) : eqc (xs.take i) (xs.getD i 0) < eqc (xs.take j) (xs.getD i 0) := by
  have h1 := eqc_take_succ xs i hi (xs.getD i 0)
  rw [if_pos rfl] at h1
  have h2 := eqc_take_mono xs (i + 1) j (xs.getD i 0) h
  omega
theorem pos_lt (xs : List Int) (i : Nat) (hi : i < xs.length) : pos xs i < lt xs (xs.getD i 0 + 1) := by
  rw [lt_succ]
  unfold pos
  have h := eqc_take_lt xs i xs.length hi hi
  rw [List.take_length] at h
  omega
theorem pos_len (xs : List Int) (i : Nat) (hi : i < xs.length) : pos xs i < xs.length := Nat.lt_of_lt_of_le (pos_lt xs i hi) (lt_le _ _)
theorem pos_inj (xs : List Int) (i k : Nat) (h : i < k) (hk : k < xs.length) : pos xs i ≠ pos xs k := by
  have hi : i < xs.length := by omega
  have h1 := pos_lt xs i hi
  have h2 := pos_lt xs k hk
  have g1 : lt xs (xs.getD i 0) ≤ pos xs i := by unfold pos; omega
  have g2 : lt xs (xs.getD k 0) ≤ pos xs k := by unfold pos; omega
  by_cases e : xs.getD i 0 = xs.getD k 0
  · have := eqc_take_lt xs i k h hi
    unfold pos
    rw [e] at this ⊢
    omega
  · by_cases l : xs.getD i 0 < xs.getD k 0
    · have := lt_mono xs (xs.getD i 0 + 1) (xs.getD k 0) (by omega)
      omega
    · have := lt_mono xs (xs.getD k 0 + 1) (xs.getD i 0) (by omega)
      omega

/-- The r-th occurrence of v. -/
theorem nth_occ (v : Int) : ∀ (xs : List Int) (r : Nat), r < eqc xs v → ∃ i, i < xs.length ∧ xs.getD i 0 = v ∧ eqc (xs.take i) v = r := by
  intro xs
  induction xs with
  | nil => intro r h; rw [eqc_nil] at h; omega
  | cons x xs ih =>
    intro r h
    rw [eqc_cons] at h
    by_cases e : x = v
    · rw [if_pos e] at h
      cases r with
      | zero => exact ⟨0, by simp, by simpa using e, rfl⟩
      | succ r =>
        obtain ⟨i, h1, h2, h3⟩ := ih r (by omega)
        refine ⟨i + 1, by simpa using h1, by simpa using h2, ?_⟩
        rw [List.take_succ_cons, eqc_cons, h3, if_pos e]
    · rw [if_neg e] at h
      obtain ⟨i, h1, h2, h3⟩ := ih r (by omega)
      refine ⟨i + 1, by simpa using h1, by simpa using h2, ?_⟩
      rw [List.take_succ_cons, eqc_cons, h3, if_neg e]; rfl
theorem find_key (xs : List Int) (q : Nat) : ∀ n : Nat, q < lt xs n → lt xs 0 ≤ q → ∃ v : Nat, v < n ∧ lt xs v ≤ q ∧ q < lt xs (v + 1) := by
  intro n
  induction n with
  | zero => intro h1 h2; simp at h1; omega
  | succ n ih =>
    intro h1 h2
    by_cases h : lt xs n ≤ q
    · exact ⟨n, by omega, h, by simpa using h1⟩
    · obtain ⟨v, a, b, c⟩ := ih (by omega) h2
      exact ⟨v, by omega, b, c⟩
theorem pos_surj (xs : List Int) (n : Nat) (hb : ∀ j, j < xs.length → 0 ≤ xs.getD j 0 ∧ xs.getD j 0 < n) (q : Nat) (hq : q < xs.length) : ∃ i, i < xs.length ∧ pos xs i = q := by
  have e0 := lt_zero xs fun j hj => (hb j hj).1
  have en := lt_all xs n fun j hj => (hb j hj).2
  obtain ⟨v, _, h1, h2⟩ := find_key xs q n (by omega) (by omega)
  rw [lt_succ] at h2
  obtain ⟨i, a, b, c⟩ := nth_occ v xs (q - lt xs v) (by omega)
  refine ⟨i, a, ?_⟩
  unfold pos
  rw [b, c]; omega

/-! What the loops hold. -/
def F1 (xs : List Int) (n k : Nat) (F : List Int) : Prop := F.length = n + 1 ∧ ∀ j, j ≤ n → F.getD j 0 = if j = 0 then 0 else (eqc (xs.take k) ((j : Int) - 1) : Int)
def F2 (xs : List Int) (n k : Nat) (F : List Int) : Prop := F.length = n + 1 ∧ ∀ j, j ≤ n → F.getD j 0 = if j ≤ k then (lt xs (j : Int) : Int) else (eqc xs ((j : Int) - 1) : Int)
def N3 (xs : List Int) (n k : Nat) (N : List Int) : Prop := N.length = n ∧ ∀ j, j < n → N.getD j 0 = (lt xs (j : Int) : Int) + (eqc (xs.take k) (j : Int) : Int)
def T3 (xs ys : List Int) (k : Nat) (T : List Int) : Prop := T.length = xs.length ∧ ∀ i, i < k → T.getD (pos xs i) 0 = ys.getD i 0
def IsF (xs : List Int) (n : Nat) (F : List Int) : Prop := F.length = n + 1 ∧ ∀ j, j ≤ n → F.getD j 0 = (lt xs (j : Int) : Int)
def IsT (xs ys T : List Int) : Prop := T.length = xs.length ∧ ∀ i, i < xs.length → T.getD (pos xs i) 0 = ys.getD i 0

theorem getD_replicate (c j : Nat) : (List.replicate c (0 : Int)).getD j 0 = 0 := by
  simp only [List.getD_eq_getElem?_getD, List.getElem?_replicate]; split <;> rfl
theorem F1_start (xs : List Int) (n : Nat) : F1 xs n 0 (List.replicate (n + 1) 0) := by
  refine ⟨by simp, fun j _ => ?_⟩
  rw [getD_replicate, List.take_zero, eqc_nil]; simp
theorem F1_step {xs : List Int} {n k : Nat} {F : List Int} (h : F1 xs n k F) (hk : k < xs.length) (v : Nat) (hv : xs.getD k 0 = v) (hvn : v < n) : F1 xs n (k + 1) (F.set (v + 1) (F.getD (v + 1) 0 + 1)) := by
  obtain ⟨h1, h2⟩ := h
  refine ⟨by simpa using h1, fun j hj => ?_⟩
  rw [getD_set _ _ _ _ (by omega), h2 (v + 1) (by omega), h2 j hj, eqc_take_succ xs k hk, hv]
  by_cases e : j = v + 1
  · subst e; rw [if_pos rfl, if_neg (by omega), if_neg (by omega), if_pos (by omega)]; omega
  · rw [if_neg e]
    by_cases z : j = 0
    · rw [if_pos z, if_pos z]
    · rw [if_neg z, if_neg z, if_neg (by omega)]; omega
theorem F1_bd {xs : List Int} {n k : Nat} {F : List Int} (h : F1 xs n k F) (j : Nat) (hj : j ≤ n) : 0 ≤ F.getD j 0 ∧ F.getD j 0 ≤ xs.length := by
  rw [h.2 j hj]
  have h1 := eqc_take_le xs k ((j : Int) - 1)
  have h2 := eqc_le xs ((j : Int) - 1)
  split <;> omega
theorem F2_start {xs : List Int} {n : Nat} {F : List Int} (h : F1 xs n xs.length F) (hb : ∀ j, j < xs.length → 0 ≤ xs.getD j 0) : F2 xs n 0 F := by
  refine ⟨h.1, fun j hj => ?_⟩
  rw [h.2 j hj, List.take_length]
  by_cases z : j = 0
  · subst z; rw [if_pos rfl, if_pos (by omega)]; have := lt_zero xs hb; simp [this]
  · rw [if_neg z, if_neg (by omega)]
theorem F2_step {xs : List Int} {n k : Nat} {F : List Int} (h : F2 xs n k F) (hk : k < n) : F2 xs n (k + 1) (F.set (k + 1) (F.getD (k + 1) 0 + F.getD k 0)) := by
  obtain ⟨h1, h2⟩ := h
  refine ⟨by simpa using h1, fun j hj => ?_⟩
  rw [getD_set _ _ _ _ (by omega), h2 (k + 1) (by omega), h2 k (by omega), h2 j hj]
  by_cases e : j = k + 1
  · subst e
    rw [if_pos rfl, if_neg (by omega), if_pos (by omega), if_pos (by omega)]
    have e1 : ((k + 1 : Nat) : Int) - 1 = (k : Int) := by omega
    have e2 : ((k + 1 : Nat) : Int) = (k : Int) + 1 := by omega
    have := lt_succ xs (k : Int)
    rw [e1, e2]; omega
  · rw [if_neg e]
    by_cases z : j ≤ k
    · rw [if_pos z, if_pos (by omega)]
    · rw [if_neg z, if_neg (by omega)]
theorem F2_bd {xs : List Int} {n k : Nat} {F : List Int} (h : F2 xs n k F) (j : Nat) (hj : j ≤ n) : 0 ≤ F.getD j 0 ∧ F.getD j 0 ≤ xs.length := by
  rw [h.2 j hj]
  have h1 := lt_le xs (j : Int)
  have h2 := eqc_le xs ((j : Int) - 1)
  split <;> omega
theorem F2_end {xs : List Int} {n : Nat} {F : List Int} (h : F2 xs n n F) : IsF xs n F := ⟨h.1, fun j hj => by rw [h.2 j hj, if_pos hj]⟩
theorem getD_take (F : List Int) (n j : Nat) (h : j < n) : (F.take n).getD j 0 = F.getD j 0 := by
  simp [List.getD_eq_getElem?_getD, h]
theorem N3_start {xs : List Int} {n : Nat} {F : List Int} (h : IsF xs n F) : N3 xs n 0 (F.take n) := by
  refine ⟨by simp [h.1], fun j hj => ?_⟩
  rw [getD_take _ _ _ hj, h.2 j (by omega), List.take_zero, eqc_nil]; omega
theorem N3_step {xs : List Int} {n k : Nat} {N : List Int} (h : N3 xs n k N) (hk : k < xs.length) (v : Nat) (hv : xs.getD k 0 = v) (hvn : v < n) : N3 xs n (k + 1) (N.set v (N.getD v 0 + 1)) := by
  obtain ⟨h1, h2⟩ := h
  refine ⟨by simpa using h1, fun j hj => ?_⟩
  rw [getD_set _ _ _ _ (by omega), h2 v hvn, h2 j hj, eqc_take_succ xs k hk, hv]
  by_cases e : j = v
  · subst e; rw [if_pos rfl, if_pos rfl]; omega
  · rw [if_neg e, if_neg (by omega)]; omega
theorem N3_pos {xs : List Int} {n k : Nat} {N : List Int} (h : N3 xs n k N) (v : Nat) (hv : xs.getD k 0 = v) (hvn : v < n) : N.getD v 0 = (pos xs k : Int) := by
  rw [h.2 v hvn]; unfold pos; rw [hv]; omega
theorem T3_start (xs ys : List Int) : T3 xs ys 0 (List.replicate xs.length 0) := ⟨by simp, fun i hi => by omega⟩
theorem T3_step {xs ys : List Int} {k : Nat} {T : List Int} (h : T3 xs ys k T) (hk : k < xs.length) : T3 xs ys (k + 1) (T.set (pos xs k) (ys.getD k 0)) := by
  obtain ⟨h1, h2⟩ := h
  refine ⟨by simpa using h1, fun i hi => ?_⟩
  rw [getD_set _ _ _ _ (by rw [h1]; exact pos_len xs k hk)]
  by_cases e : i = k
  · subst e; rw [if_pos rfl]
  · rw [if_neg (pos_inj xs i k (by omega) hk), h2 i (by omega)]
theorem T3_end {xs ys : List Int} {T : List Int} (h : T3 xs ys xs.length T) : IsT xs ys T := h
end Go.Proofs.Qxb6616202a.FM
