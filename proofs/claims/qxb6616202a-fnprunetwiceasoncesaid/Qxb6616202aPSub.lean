import Derived.Test.Qxb6616202aPHas
namespace Go.Proofs.Qxb6616202a.Prune
open Go.RowKit Go.Proofs.Qxb6616202a.Kit
set_option linter.unusedVariables false
set_option linter.unusedSimpArgs false

/-- Is x the lock of a node of the tree numbered s? By fuel. -/
def inSub (nk nl nr : List Int) (x : Int) : Nat → Int → Bool
  | 0, _ => false
  | f + 1, s => if s ≤ 0 ∨ (nk.length : Int) ≤ s then false else if nk.getD s.toNat 0 = x then true else (inSub nk nl nr x f (nl.getD s.toNat 0) || inSub nk nl nr x f (nr.getD s.toNat 0))

theorem insub_any (nk nl nr : List Int) (a1 a2 a3 : Option Addr) (c1 c2 c3 m : Nat) (x : Int) (w : World) (h1 : Rd .i32 w a1 nk) (h2 : Rd .i32 w a2 nl) (h3 : Rd .i32 w a3 nr) (l1 : nk.length = m) (l2 : nl.length = m) (l3 : nr.length = m) (hm : m ≤ 8192)
    (hD : Down nk nl nr) : ∀ (fu : Nat) (s : Int), s < fu → s ≤ 8192 →
    Calls Try.prog 29 #[.slice a1 m c1, .slice a2 m c2, .slice a3 m c3, .int .i32 s, .int .i32 x] w fun e w' => e = .returned (.bool (inSub nk nl nr x fu s)) ∧ w' = w := by
  intro fu
  induction fu with
  | zero =>
    intro s hs _
    have hs0 : s ≤ 0 := by omega
    unfold inSub
    go_enter Try.func29, Try.ntmps29
    go_wp2_with fail
    go_ret
    exact ⟨rfl, rfl⟩
  | succ f ih =>
    intro s hs hs8
    have IH := hide ih
    have H1 := hide h1
    have H2 := hide h2
    have H3 := hide h3
    have HD := hide hD
    have L1 := hide l1
    have L2 := hide l2
    have L3 := hide l3
    clear ih h1 h2 h3 hD l1 l2 l3
    by_cases c1' : s ≤ 0
    · have e : inSub nk nl nr x (f + 1) s = false := by rw [inSub, if_pos (.inl c1')]
      rw [e]
      clear e
      go_enter Try.func29, Try.ntmps29
      go_wp2_with fail
      go_ret
      exact ⟨rfl, rfl⟩
    · by_cases c2' : (m : Int) ≤ s
      · have e : inSub nk nl nr x (f + 1) s = false := by rw [inSub, if_pos (.inr (by rw [L1.out]; exact c2'))]
        rw [e]
        clear e
        go_enter Try.func29, Try.ntmps29
        go_wp2_with fail
        go_ret
        exact ⟨rfl, rfl⟩
      · obtain ⟨t, rfl⟩ : ∃ t : Nat, s = t := ⟨s.toNat, by omega⟩
        have htm : t < m := by omega
        have hd := HD.out t (by omega) (by rw [L1.out]; exact htm)
        obtain ⟨b1, o1, rfl, x1⟩ := H1.out t (by rw [L1.out]; exact htm)
        obtain ⟨b2, o2, rfl, x2⟩ := H2.out t (by rw [L2.out]; exact htm)
        obtain ⟨b3, o3, rfl, x3⟩ := H3.out t (by rw [L3.out]; exact htm)
        have e : inSub nk nl nr x (f + 1) t = if nk.getD t 0 = x then true else (inSub nk nl nr x f (nl.getD t 0) || inSub nk nl nr x f (nr.getD t 0)) := by
          rw [inSub, if_neg (by rw [L1.out]; omega), Int.toNat_natCast]
        rw [e]
        clear e
        have i1 := IH.out (nl.getD t 0) (by omega) (by omega)
        have i2 := IH.out (nr.getD t 0) (by omega) (by omega)
        have hti : (t : Int) < (m : Int) := by omega
        obtain ⟨k, hke⟩ : ∃ k, nk.getD t 0 = k := ⟨_, rfl⟩
        obtain ⟨l, hle⟩ : ∃ l, nl.getD t 0 = l := ⟨_, rfl⟩
        obtain ⟨r, hre⟩ : ∃ r, nr.getD t 0 = r := ⟨_, rfl⟩
        rw [hke] at x1 ⊢
        rw [hle] at x2 i1 hd ⊢
        rw [hre] at x3 i2 hd ⊢
        generalize inSub nk nl nr x f l = A at *
        generalize inSub nk nl nr x f r = B at *
        have I1 := hide i1
        have I2 := hide i2
        clear i1 i2 hke hle hre IH H1 H2 H3 HD
        by_cases ck : k = x
        · rw [if_pos ck]
          subst ck
          go_enter Try.func29, Try.ntmps29
          go_wp2_with fail
          go_ret
          exact ⟨rfl, rfl⟩
        · rw [if_neg ck]
          have ckb : (k == x) = false := beq_eq_false_iff_ne.2 ck
          cases A
          · go_enter Try.func29, Try.ntmps29
            go_wp2_with fail
            refine I1.out.mono ?_
            rintro e w1 ⟨rfl, hw⟩
            subst w1
            go_wp2_with fail
            refine I2.out.mono ?_
            rintro e w1 ⟨rfl, hw⟩
            subst w1
            go_wp2_with fail
            go_ret
            exact ⟨rfl, rfl⟩
          · go_enter Try.func29, Try.ntmps29
            go_wp2_with fail
            refine I1.out.mono ?_
            rintro e w1 ⟨rfl, hw⟩
            subst w1
            go_wp2_with fail
            go_ret
            exact ⟨rfl, rfl⟩

/-- The search trees' order, as the domain's check has it: the least and the greatest lock under each node. -/
structure Tree (nk nl nr lo hi : List Int) : Prop where
  dn : Down nk nl nr
  lo1 : ∀ s, 1 ≤ s → s < nk.length → lo.getD s 0 = if nl.getD s 0 = 0 then nk.getD s 0 else lo.getD (nl.getD s 0).toNat 0
  hi1 : ∀ s, 1 ≤ s → s < nk.length → hi.getD s 0 = if nr.getD s 0 = 0 then nk.getD s 0 else hi.getD (nr.getD s 0).toNat 0
  lt : ∀ s, 1 ≤ s → s < nk.length → nl.getD s 0 ≠ 0 → hi.getD (nl.getD s 0).toNat 0 < nk.getD s 0
  gt : ∀ s, 1 ≤ s → s < nk.length → nr.getD s 0 ≠ 0 → nk.getD s 0 < lo.getD (nr.getD s 0).toNat 0

theorem lo_hi {nk nl nr lo hi : List Int} (h : Tree nk nl nr lo hi) : ∀ (n t : Nat), t < n → 1 ≤ t → t < nk.length → lo.getD t 0 ≤ nk.getD t 0 ∧ nk.getD t 0 ≤ hi.getD t 0 := by
  intro n
  induction n with
  | zero => intro t ht; omega
  | succ n ih =>
    intro t ht h1 h2
    have L := h.lo1 t h1 h2
    have H := h.hi1 t h1 h2
    have d := h.dn t h1 h2
    constructor
    · by_cases c : nl.getD t 0 = 0
      · rw [if_pos c] at L; omega
      · rw [if_neg c] at L
        have g := ih (nl.getD t 0).toNat (by omega) (by omega) (by omega)
        have q := h.lt t h1 h2 c
        omega
    · by_cases c : nr.getD t 0 = 0
      · rw [if_pos c] at H; omega
      · rw [if_neg c] at H
        have g := ih (nr.getD t 0).toNat (by omega) (by omega) (by omega)
        have q := h.gt t h1 h2 c
        omega
theorem inSub_range {nk nl nr lo hi : List Int} (h : Tree nk nl nr lo hi) (x : Int) : ∀ (f : Nat) (s : Int), inSub nk nl nr x f s = true → 0 < s ∧ s < nk.length ∧ lo.getD s.toNat 0 ≤ x ∧ x ≤ hi.getD s.toNat 0 := by
  intro f
  induction f with
  | zero => intro s hs; simp [inSub] at hs
  | succ f ih =>
    intro s hs
    rw [inSub] at hs
    by_cases c : s ≤ 0 ∨ (nk.length : Int) ≤ s
    · rw [if_pos c] at hs; cases hs
    · rw [if_neg c] at hs
      obtain ⟨t, rfl⟩ : ∃ t : Nat, s = t := ⟨s.toNat, by omega⟩
      rw [Int.toNat_natCast] at hs ⊢
      have h1 : 1 ≤ t := by omega
      have h2 : t < nk.length := by omega
      have L := h.lo1 t h1 h2
      have H := h.hi1 t h1 h2
      have lh := lo_hi h (t + 1) t (by omega) h1 h2
      refine ⟨by omega, by omega, ?_⟩
      by_cases e : nk.getD t 0 = x
      · omega
      · rw [if_neg e, Bool.or_eq_true] at hs
        rcases hs with hs | hs
        · have g := ih _ hs
          have q := h.lt t h1 h2 (by omega)
          rw [if_neg (by omega)] at L
          omega
        · have g := ih _ hs
          have q := h.gt t h1 h2 (by omega)
          rw [if_neg (by omega)] at H
          omega
/-- Searching down finds what is there. -/
theorem has_sub {nk nl nr lo hi : List Int} (h : Tree nk nl nr lo hi) (x : Int) : ∀ (f : Nat) (s : Int), 0 ≤ s → (s = 0 ∨ s < nk.length) → s < f → hasF nk nl nr x f s = inSub nk nl nr x f s := by
  intro f
  induction f with
  | zero => intro s; omega
  | succ f ih =>
    intro s h0 hs hf
    rw [hasF, inSub]
    by_cases c : s = 0
    · rw [if_pos c, if_pos (.inl (by omega))]
    · rw [if_neg c, if_neg (show ¬ (s ≤ 0 ∨ (nk.length : Int) ≤ s) by omega)]
      obtain ⟨t, rfl⟩ : ∃ t : Nat, s = t := ⟨s.toNat, by omega⟩
      rw [Int.toNat_natCast]
      have h1 : 1 ≤ t := by omega
      have h2 : t < nk.length := by omega
      have d := h.dn t h1 h2
      have iL := ih (nl.getD t 0) (by omega) (by omega) (by omega)
      have iR := ih (nr.getD t 0) (by omega) (by omega) (by omega)
      by_cases c1 : x < nk.getD t 0
      · rw [if_pos c1, if_neg (show ¬ nk.getD t 0 = x by omega), iL]
        have e : inSub nk nl nr x f (nr.getD t 0) = false := by
          cases hb : inSub nk nl nr x f (nr.getD t 0) with
          | false => rfl
          | true =>
            have g := inSub_range h x f _ hb
            have q := h.gt t h1 h2 (by omega)
            omega
        rw [e, Bool.or_false]
      · rw [if_neg c1]
        by_cases c2 : nk.getD t 0 < x
        · rw [if_pos c2, if_neg (show ¬ nk.getD t 0 = x by omega), iR]
          have e : inSub nk nl nr x f (nl.getD t 0) = false := by
            cases hb : inSub nk nl nr x f (nl.getD t 0) with
            | false => rfl
            | true =>
              have g := inSub_range h x f _ hb
              have q := h.lt t h1 h2 (by omega)
              omega
          rw [e, Bool.false_or]
        · rw [if_neg c2, if_pos (show nk.getD t 0 = x by omega)]
end Go.Proofs.Qxb6616202a.Prune
