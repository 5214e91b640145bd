import Derived.Test.Qxb6616202aMath
namespace Go.Proofs.Qxb6616202a.FM
set_option linter.unusedVariables false
set_option linter.unusedSimpArgs false

/-- Places p and p+1 exchanged. -/
def swp (xs : List Int) (p : Nat) : List Int := (xs.set p (xs.getD (p + 1) 0)).set (p + 1) (xs.getD p 0)
theorem swp_length (xs : List Int) (p : Nat) : (swp xs p).length = xs.length := by simp [swp]
theorem swp_get (xs : List Int) (p : Nat) (h : p + 1 < xs.length) (j : Nat) : (swp xs p).getD j 0 = if j = p + 1 then xs.getD p 0 else if j = p then xs.getD (p + 1) 0 else xs.getD j 0 := by
  unfold swp
  rw [getD_set _ _ _ _ (by simp; omega), getD_set _ _ _ _ (by omega)]
theorem ext_getD (A B : List Int) (hl : A.length = B.length) (h : ∀ j, j < A.length → A.getD j 0 = B.getD j 0) : A = B := by
  apply List.ext_getElem hl
  intro i h1 h2
  have := h i h1
  simpa [List.getD, h1, h2] using this

/-- The list parted at p: two in the middle. -/
theorem parts (xs : List Int) (p : Nat) (h : p + 1 < xs.length) : xs = xs.take p ++ xs.getD p 0 :: xs.getD (p + 1) 0 :: xs.drop (p + 2) := by
  have e1 : xs.drop p = xs[p] :: xs.drop (p + 1) := List.drop_eq_getElem_cons (by omega)
  have e2 : xs.drop (p + 1) = xs[p + 1] :: xs.drop (p + 1 + 1) := List.drop_eq_getElem_cons h
  have g1 : xs.getD p 0 = xs[p] := by simp [List.getD, show p < xs.length by omega]
  have g2 : xs.getD (p + 1) 0 = xs[p + 1] := by simp [List.getD, h]
  rw [g1, g2, ← e2, ← e1, List.take_append_drop]
theorem swp_parts (xs : List Int) (p : Nat) (h : p + 1 < xs.length) : swp xs p = xs.take p ++ xs.getD (p + 1) 0 :: xs.getD p 0 :: xs.drop (p + 2) := by
  apply ext_getD
  · simp [swp]; omega
  · intro j hj
    rw [swp_get xs p h]
    simp only [List.getD_eq_getElem?_getD]
    by_cases h1 : j < p
    · rw [List.getElem?_append_left (by simp; omega), List.getElem?_take, if_pos h1, if_neg (by omega), if_neg (by omega)]
    · rw [List.getElem?_append_right (by simp; omega)]
      have hl : (xs.take p).length = p := by simp; omega
      rw [hl]
      by_cases h2 : j = p
      · subst h2; rw [if_neg (by omega), if_pos rfl]; simp
      · by_cases h3 : j = p + 1
        · subst h3; rw [if_pos rfl]; simp
        · rw [if_neg h3, if_neg h2]
          obtain ⟨q, hq⟩ : ∃ q, j = p + 2 + q := ⟨j - (p + 2), by omega⟩
          subst hq
          rw [show p + 2 + q - p = q + 1 + 1 by omega, List.getElem?_cons_succ, List.getElem?_cons_succ, List.getElem?_drop]
theorem swp_lt (xs : List Int) (p : Nat) (h : p + 1 < xs.length) (j : Int) : lt (swp xs p) j = lt xs j := by
  have e : lt xs j = lt (xs.take p ++ xs.getD p 0 :: xs.getD (p + 1) 0 :: xs.drop (p + 2)) j := by rw [← parts xs p h]
  rw [e, swp_parts xs p h, lt_append, lt_append, lt_cons, lt_cons, lt_cons, lt_cons]; omega
/-- The counts ahead of place j, of the exchanged list. -/
theorem swp_take (xs : List Int) (p : Nat) (h : p + 1 < xs.length) (v : Int) (j : Nat) (hj : j ≠ p + 1) : eqc ((swp xs p).take j) v = eqc (xs.take j) v := by
  by_cases h1 : j ≤ p
  · have : (swp xs p).take j = xs.take j := by
      rw [swp_parts xs p h, List.take_append_of_le_length (by simp; omega), List.take_take]
      congr 1; omega
    rw [this]
  · obtain ⟨q, rfl⟩ : ∃ q, j = p + 2 + q := ⟨j - (p + 2), by omega⟩
    have hl : (xs.take p).length = p := by simp; omega
    have e : eqc (xs.take (p + 2 + q)) v = eqc ((xs.take p ++ xs.getD p 0 :: xs.getD (p + 1) 0 :: xs.drop (p + 2)).take (p + 2 + q)) v := by rw [← parts xs p h]
    rw [e, swp_parts xs p h, List.take_append, List.take_append, hl, show p + 2 + q - p = q + 1 + 1 by omega, List.take_succ_cons, List.take_succ_cons, List.take_succ_cons, List.take_succ_cons, eqc_append, eqc_append, eqc_cons, eqc_cons, eqc_cons, eqc_cons]; omega
theorem swp_take_mid (xs : List Int) (p : Nat) (h : p + 1 < xs.length) (v : Int) : eqc ((swp xs p).take (p + 1)) v = eqc (xs.take p) v + if xs.getD (p + 1) 0 = v then 1 else 0 := by
  have hl : (xs.take p).length = p := by simp; omega
  rw [swp_parts xs p h, List.take_append, hl, show p + 1 - p = 0 + 1 by omega, List.take_succ_cons, List.take_zero, List.take_of_length_le (by simp; omega), eqc_append, eqc_cons, eqc_nil]; omega

theorem swp_F {xs F F' : List Int} {n p : Nat} (h : p + 1 < xs.length) (f : IsF xs n F) (f' : IsF (swp xs p) n F') : F = F' := by
  refine ext_getD _ _ (by rw [f.1, f'.1]) fun j hj => ?_
  rw [f.1] at hj
  rw [f.2 j (by omega), f'.2 j (by omega), swp_lt xs p h]
/-- Where an edge goes. -/
def sg (p i : Nat) : Nat := if i = p then p + 1 else if i = p + 1 then p else i
theorem swp_at (xs : List Int) (p : Nat) (h : p + 1 < xs.length) (i : Nat) : (swp xs p).getD (sg p i) 0 = xs.getD i 0 := by
  rw [swp_get xs p h]
  unfold sg
  by_cases h1 : i = p
  · rw [if_pos h1, if_pos rfl, h1]
  · by_cases h2 : i = p + 1
    · rw [if_neg h1, if_pos h2, if_neg (by omega), if_pos rfl, h2]
    · rw [if_neg h1, if_neg h2, if_neg h2, if_neg h1]
theorem swp_pos (xs : List Int) (p : Nat) (h : p + 1 < xs.length) (hd : xs.getD p 0 ≠ xs.getD (p + 1) 0) (i : Nat) : pos (swp xs p) (sg p i) = pos xs i := by
  unfold pos
  rw [swp_at xs p h, swp_lt xs p h]
  unfold sg
  by_cases h1 : i = p
  · subst h1
    rw [if_pos rfl, swp_take_mid xs i h, if_neg (fun e => hd e.symm)]; omega
  · by_cases h2 : i = p + 1
    · subst h2
      rw [if_neg h1, if_pos rfl, swp_take xs p h _ p (by omega), eqc_take_succ xs p (by omega), if_neg hd]; omega
    · rw [if_neg h1, if_neg h2, swp_take xs p h _ i h2]
theorem swp_T {xs ys T T' : List Int} {n p : Nat} (h : p + 1 < xs.length) (hl : ys.length = xs.length) (hd : xs.getD p 0 ≠ xs.getD (p + 1) 0) (hb : ∀ j, j < xs.length → 0 ≤ xs.getD j 0 ∧ xs.getD j 0 < n)
    (t : IsT xs ys T) (t' : IsT (swp xs p) (swp ys p) T') : T = T' := by
  refine ext_getD _ _ (by rw [t.1, t'.1, swp_length]) fun q hq => ?_
  rw [t.1] at hq
  obtain ⟨i, hi, rfl⟩ := pos_surj xs n hb q hq
  have hs : sg p i < xs.length := by unfold sg; split; omega; split <;> omega
  have e := t'.2 (sg p i) (by rw [swp_length]; exact hs)
  rw [swp_pos xs p h hd, swp_at ys p (by omega)] at e
  rw [t.2 i hi, e]
theorem swp_all (xs : List Int) (p : Nat) (n : Int) (h : p + 1 < xs.length) (hb : ∀ j, j < xs.length → 0 ≤ xs.getD j 0 ∧ xs.getD j 0 < n) : ∀ j, j < (swp xs p).length → 0 ≤ (swp xs p).getD j 0 ∧ (swp xs p).getD j 0 < n := by
  intro j hj
  rw [swp_length] at hj
  rw [swp_get xs p h]
  split
  · exact hb _ (by omega)
  · split
    · exact hb _ h
    · exact hb _ hj
/-- What the counting loop holds. -/
def C1 (xs : List Int) (n k : Nat) (O : List Int) : Prop := O.length = n ∧ ∀ v, v < n → O.getD v 0 = (eqc (xs.take k) (v : Int) : Int)
theorem C1_start (xs : List Int) (n : Nat) : C1 xs n 0 (List.replicate n 0) := by
  refine ⟨by simp, fun j _ => ?_⟩
  rw [getD_replicate, List.take_zero, eqc_nil]; rfl
theorem C1_step {xs : List Int} {n k : Nat} {O : List Int} (h : C1 xs n k O) (hk : k < xs.length) (v : Nat) (hv : xs.getD k 0 = v) (hvn : v < n) : C1 xs n (k + 1) (O.set v (O.getD v 0 + 1)) := by
  obtain ⟨h1, h2⟩ := h
  refine ⟨by simpa using h1, fun j hj => ?_⟩
  rw [getD_set _ _ _ _ (by omega), h2 v hvn, h2 j hj, eqc_take_succ xs k hk, hv]
  by_cases e : j = v
  · subst e; rw [if_pos rfl, if_pos rfl]; omega
  · rw [if_neg e, if_neg (by omega)]; omega
theorem C1_bd {xs : List Int} {n k : Nat} {O : List Int} (h : C1 xs n k O) (v : Nat) (hv : v < n) : 0 ≤ O.getD v 0 ∧ O.getD v 0 ≤ xs.length := by
  rw [h.2 v hv]
  have h1 := eqc_take_le xs k (v : Int)
  have h2 := eqc_le xs (v : Int)
  omega
theorem C1_end {xs O F : List Int} {n : Nat} (h : C1 xs n xs.length O) (f : IsF xs n F) (v : Nat) (hv : v < n) : F.getD (v + 1) 0 = F.getD v 0 + O.getD v 0 ∧ 0 ≤ F.getD v 0 ∧ F.getD v 0 ≤ xs.length ∧ 0 ≤ O.getD v 0 ∧ O.getD v 0 ≤ xs.length := by
  have hb := C1_bd h v hv
  have e := h.2 v hv
  rw [List.take_length] at e
  rw [f.2 (v + 1) (by omega), f.2 v (by omega), e]
  have hs := lt_succ xs (v : Int)
  have hl := lt_le xs (v : Int)
  have he := eqc_le xs (v : Int)
  have e2 : ((v + 1 : Nat) : Int) = (v : Int) + 1 := by omega
  rw [e2]; omega
/-- Copied so far. -/
def Cp (xs : List Int) (k : Nat) (L : List Int) : Prop := L.length = xs.length ∧ ∀ j, j < k → L.getD j 0 = xs.getD j 0
theorem Cp_start (xs : List Int) (n : Nat) (h : xs.length = n) : Cp xs 0 (List.replicate n 0) := ⟨by simp [h], fun j hj => by omega⟩
theorem Cp_step {xs L : List Int} {k : Nat} (h : Cp xs k L) (hk : k < xs.length) : Cp xs (k + 1) (L.set k (xs.getD k 0)) := by
  refine ⟨by simpa using h.1, fun j hj => ?_⟩
  rw [getD_set _ _ _ _ (by rw [h.1]; exact hk)]
  split
  · rename_i e; rw [e]
  · exact h.2 j (by omega)
theorem Cp_end {xs L : List Int} (h : Cp xs xs.length L) : L = xs := ext_getD _ _ h.1 fun j hj => h.2 j (by rw [← h.1]; exact hj)
end Go.Proofs.Qxb6616202a.FM
