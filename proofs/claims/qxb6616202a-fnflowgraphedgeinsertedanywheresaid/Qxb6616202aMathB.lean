import Derived.Test.Qxb6616202aMath
import Derived.Test.Qxb6616202aIns
namespace Go.Proofs.Qxb6616202a.FM
open Go.Proofs.Qxb6616202a.Flow
set_option linter.unusedVariables false
set_option linter.unusedSimpArgs false

/-- x put in at place p. -/
def insL (xs : List Int) (p : Nat) (t : Int) : List Int := xs.take p ++ t :: xs.drop p
theorem insL_length (xs : List Int) (p : Nat) (t : Int) (hp : p ≤ xs.length) : (insL xs p t).length = xs.length + 1 := by simp [insL]; omega
theorem insL_lo (xs : List Int) (p : Nat) (t : Int) (hp : p ≤ xs.length) (i : Nat) (h : i < p) : (insL xs p t).getD i 0 = xs.getD i 0 := by
  simp only [insL, List.getD_eq_getElem?_getD]
  rw [List.getElem?_append_left (by simp; omega), List.getElem?_take, if_pos h]
theorem insL_at (xs : List Int) (p : Nat) (t : Int) (hp : p ≤ xs.length) : (insL xs p t).getD p 0 = t := by
  simp only [insL, List.getD_eq_getElem?_getD]
  rw [List.getElem?_append_right (by simp; omega)]
  have : p - (xs.take p).length = 0 := by simp; omega
  rw [this]; rfl
theorem insL_hi (xs : List Int) (p : Nat) (t : Int) (hp : p ≤ xs.length) (i : Nat) (h : p ≤ i) : (insL xs p t).getD (i + 1) 0 = xs.getD i 0 := by
  simp only [insL, List.getD_eq_getElem?_getD]
  rw [List.getElem?_append_right (by simp; omega)]
  have : i + 1 - (xs.take p).length = (i - p) + 1 := by simp; omega
  rw [this, List.getElem?_cons_succ, List.getElem?_drop]
  congr 2; omega
theorem insL_take_lo (xs : List Int) (p : Nat) (t : Int) (hp : p ≤ xs.length) (i : Nat) (h : i ≤ p) : (insL xs p t).take i = xs.take i := by
  unfold insL
  rw [List.take_append_of_le_length (by simp; omega), List.take_take]
  congr 1; omega
theorem insL_take_hi (xs : List Int) (p : Nat) (t : Int) (hp : p ≤ xs.length) (i : Nat) (h : p ≤ i) (v : Int) : eqc ((insL xs p t).take (i + 1)) v = eqc (xs.take i) v + if t = v then 1 else 0 := by
  unfold insL
  rw [List.take_append, List.take_of_length_le (by simp; omega), eqc_append]
  have : i + 1 - (xs.take p).length = (i - p) + 1 := by simp; omega
  rw [this, List.take_succ_cons, eqc_cons]
  have e : xs.take i = xs.take p ++ (xs.drop p).take (i - p) := by
    have := List.take_add (l := xs) (i := p) (j := i - p)
    rw [show p + (i - p) = i from by omega] at this
    exact this
  rw [e, eqc_append]; omega
theorem insL_lt (xs : List Int) (p : Nat) (t : Int) (_hp : p ≤ xs.length) (j : Int) : lt (insL xs p t) j = lt xs j + if t < j then 1 else 0 := by
  unfold insL
  rw [lt_append, lt_cons]
  have : lt xs j = lt (xs.take p) j + lt (xs.drop p) j := by rw [← lt_append, List.take_append_drop]
  omega
/-- The place of an old edge among the new ones. -/
theorem pos_ins (xs : List Int) (p : Nat) (t : Int) (hp : p ≤ xs.length) (i : Nat) (hi : i < xs.length) : pos (insL xs p t) (if i < p then i else i + 1) = pos xs i + if t < xs.getD i 0 ∨ (xs.getD i 0 = t ∧ p ≤ i) then 1 else 0 := by
  unfold pos
  by_cases h : i < p
  · rw [if_pos h, insL_lo xs p t hp i h, insL_lt xs p t hp, insL_take_lo xs p t hp i (by omega)]
    by_cases g : t < xs.getD i 0
    · rw [if_pos g, if_pos (Or.inl g)]; omega
    · rw [if_neg g, if_neg (by omega)]; omega
  · rw [if_neg h, insL_hi xs p t hp i (by omega), insL_lt xs p t hp, insL_take_hi xs p t hp i (by omega)]
    by_cases g : t < xs.getD i 0
    · rw [if_pos g, if_pos (Or.inl g), if_neg (by omega)]; omega
    · by_cases e : t = xs.getD i 0
      · rw [if_neg g, if_pos e, if_pos (Or.inr ⟨e.symm, by omega⟩)]; omega
      · rw [if_neg g, if_neg e, if_neg (by omega)]; omega
/-- Which old edges lie behind the new one. -/
theorem pos_side (xs : List Int) (p : Nat) (t : Int) (_hp : p ≤ xs.length) (i : Nat) (hi : i < xs.length) : (t < xs.getD i 0 ∨ (xs.getD i 0 = t ∧ p ≤ i)) ↔ lt xs t + eqc (xs.take p) t ≤ pos xs i := by
  have h1 := pos_lt xs i hi
  have g1 : lt xs (xs.getD i 0) ≤ pos xs i := by unfold pos; omega
  have hq := eqc_take_le xs p t
  have hs := lt_succ xs t
  constructor
  · rintro (h | ⟨h, hpi⟩)
    · have := lt_mono xs (t + 1) (xs.getD i 0) (by omega); omega
    · have := eqc_take_mono xs p i t hpi
      unfold pos; rw [h]; omega
  · intro h
    by_cases g : t < xs.getD i 0
    · exact Or.inl g
    · by_cases e : xs.getD i 0 = t
      · refine Or.inr ⟨e, ?_⟩
        by_cases hpi : p ≤ i
        · exact hpi
        · have := eqc_take_lt xs i p (by omega) hi
          unfold pos at h
          rw [e] at this h
          omega
      · have := lt_mono xs (xs.getD i 0 + 1) t (by omega); omega
theorem pos_new (xs : List Int) (p : Nat) (t : Int) (hp : p ≤ xs.length) : pos (insL xs p t) p = lt xs t + eqc (xs.take p) t := by
  unfold pos
  rw [insL_at xs p t hp, insL_lt xs p t hp, insL_take_lo xs p t hp p (Nat.le_refl _), if_neg (by omega)]; omega

theorem insL_all (xs : List Int) (p : Nat) (t n : Int) (hp : p ≤ xs.length) (ht : 0 ≤ t ∧ t < n) (hb : ∀ j, j < xs.length → 0 ≤ xs.getD j 0 ∧ xs.getD j 0 < n) : ∀ j, j < (insL xs p t).length → 0 ≤ (insL xs p t).getD j 0 ∧ (insL xs p t).getD j 0 < n := by
  intro j hj
  rw [insL_length xs p t hp] at hj
  by_cases h1 : j < p
  · rw [insL_lo xs p t hp j h1]; exact hb j (by omega)
  · by_cases h2 : j = p
    · rw [h2, insL_at xs p t hp]; exact ht
    · have := insL_hi xs p t hp (j - 1) (by omega)
      rw [show j - 1 + 1 = j from by omega] at this
      rw [this]; exact hb (j - 1) (by omega)

theorem isF_zero {xs F : List Int} {n : Nat} (h : IsF xs n F) (hb : ∀ j, j < xs.length → 0 ≤ xs.getD j 0 ∧ xs.getD j 0 < n) : F.getD 0 0 = 0 := by
  have := lt_zero xs fun j hj => (hb j hj).1
  rw [h.2 0 (Nat.zero_le _)]
  simp [this]
theorem isF_last {xs F : List Int} {n : Nat} (h : IsF xs n F) (hb : ∀ j, j < xs.length → 0 ≤ xs.getD j 0 ∧ xs.getD j 0 < n) : F.getD n 0 = xs.length := by
  have := lt_all xs n fun j hj => (hb j hj).2
  rw [h.2 n (Nat.le_refl _), this]

theorem ins_law (xs ys : List Int) (n p : Nat) (t : Nat) (h : Int) (F T F' T' : List Int) (hp : p ≤ xs.length) (hl : ys.length = xs.length) (hm : xs.length ≤ 65536) (ht : t < n)
    (hb : ∀ j, j < xs.length → 0 ≤ xs.getD j 0 ∧ xs.getD j 0 < n)
    (f : IsF xs n F) (g : IsT xs ys T) (f' : IsF (insL xs p t) n F') (g' : IsT (insL xs p t) (insL ys p h) T') :
    Ins F T F' T' t (lt xs t + eqc (xs.take p) t) h ∧ F.getD t 0 + (eqc (xs.take p) t : Nat) = ((lt xs t + eqc (xs.take p) t : Nat) : Int) := by
  have hli := insL_length xs p t hp
  have key : ∀ q, q < xs.length → T'.getD (q + if lt xs t + eqc (xs.take p) t ≤ q then 1 else 0) 0 = T.getD q 0 := by
    intro q hq
    obtain ⟨i, hi, rfl⟩ := pos_surj xs n hb q hq
    rw [g.2 i hi]
    have e := pos_ins xs p t hp i hi
    by_cases hs : lt xs t + eqc (xs.take p) t ≤ pos xs i
    · rw [if_pos hs]
      rw [if_pos ((pos_side xs p t hp i hi).2 hs)] at e
      rw [← e]
      by_cases hip : i < p
      · rw [if_pos hip, g'.2 i (by omega), insL_lo ys p h (by omega) i hip]
      · rw [if_neg hip, g'.2 (i + 1) (by omega), insL_hi ys p h (by omega) i (by omega)]
    · rw [if_neg hs]
      rw [if_neg (fun c => hs ((pos_side xs p t hp i hi).1 c))] at e
      rw [← e]
      by_cases hip : i < p
      · rw [if_pos hip, g'.2 i (by omega), insL_lo ys p h (by omega) i hip]
      · rw [if_neg hip, g'.2 (i + 1) (by omega), insL_hi ys p h (by omega) i (by omega)]
  have hq := eqc_take_le xs p t
  have hs := lt_succ xs t
  have hle := lt_le xs ((t : Int) + 1)
  refine ⟨⟨by rw [f'.1, f.1], by rw [g'.1, g.1, hli], by rw [f.1]; omega, by rw [g.1]; omega, fun u hu => ?_, fun u hu => ?_, fun i hi => ?_, ?_, fun i hi1 hi2 => ?_⟩, ?_⟩
  · rw [f.1] at hu
    rw [f'.2 u (by omega), f.2 u (by omega), insL_lt xs p t hp]
    by_cases c : t < u
    · rw [if_pos c, if_pos (by omega)]; omega
    · rw [if_neg c, if_neg (by omega)]; omega
  · rw [f.1] at hu
    rw [f.2 u (by omega)]
    have := lt_le xs (u : Int)
    omega
  · have := key i (by omega)
    rw [if_neg (by omega)] at this
    exact this
  · rw [← pos_new xs p t hp, g'.2 p (by omega), insL_at ys p h (by omega)]
  · rw [g.1] at hi2
    have := key i hi2
    rw [if_pos hi1] at this
    exact this
  · rw [f.2 t (by omega)]; omega
end Go.Proofs.Qxb6616202a.FM
