import Derived.Test.Qxb6616202aRows
import Derived.Test.Qxb6616202aKit
import Derived.WalkSmall
namespace Go.Proofs.Qxb6616202a.Prune
open Go.RowKit Go.Proofs.Qxb6616202a.Kit
set_option linter.unusedVariables false
set_option linter.unusedSimpArgs false

/-- Node s of the search trees, as it lies in block b. -/
structure NodeC (w : World) (b o : Nat) (k l r : Int) : Prop where
  c0 : w.cell? ⟨b, o, none⟩ = some (.int .i32 k)
  c1 : w.cell? ⟨b, o + 1, none⟩ = some (.int .i32 l)
  c2 : w.cell? ⟨b, o + 2, none⟩ = some (.int .i32 r)
  c3 : w.cell? ⟨b, o + 3, none⟩ = some (.int .i32 0)
  c4 : w.cell? ⟨b, o + 4, none⟩ = some (.int .u64 0)
def Nodes (w : World) (b : Nat) (nk nl nr : List Int) : Prop := ∀ i, i < nk.length → NodeC w b (i * 5) (nk.getD i 0) (nl.getD i 0) (nr.getD i 0)
theorem NodeC.below {w w' : World} {b o B : Nat} {k l r : Int} (h : NodeC w b o k l r) (hb : Below B w w') (hB : b < B) : NodeC w' b o k l r := by
  have g : ∀ k, w'.cell? ⟨b, k, none⟩ = w.cell? ⟨b, k, none⟩ := fun k => hb.cell (p := ⟨b, k, none⟩) hB
  exact ⟨by rw [g]; exact h.c0, by rw [g]; exact h.c1, by rw [g]; exact h.c2, by rw [g]; exact h.c3, by rw [g]; exact h.c4⟩
theorem Nodes.below {w w' : World} {b B : Nat} {nk nl nr : List Int} (h : Nodes w b nk nl nr) (hb : Below B w w') (hB : b < B) : Nodes w' b nk nl nr := fun i hi => (h i hi).below hb hB

/-- The search down a tree, by fuel. -/
def hasF (nk nl nr : List Int) (x : Int) : Nat → Int → Bool
  | 0, _ => false
  | f + 1, s => if s = 0 then false else if x < nk.getD s.toNat 0 then hasF nk nl nr x f (nl.getD s.toNat 0) else if nk.getD s.toNat 0 < x then hasF nk nl nr x f (nr.getD s.toNat 0) else true
/-- Children are numbered below their parent. -/
def Down (nk nl nr : List Int) : Prop := ∀ s, 1 ≤ s → s < nk.length → 0 ≤ nl.getD s 0 ∧ nl.getD s 0 < s ∧ 0 ≤ nr.getD s 0 ∧ nr.getD s 0 < s

set_option maxHeartbeats 400000 in
theorem has_any (bH bN m : Nat) (nk nl nr : List Int) (s x : Int) (w : World) (hH : w.cell? ⟨bH, 0, none⟩ = some (.slice (some ⟨bN, 0, none⟩) m m)) (hN : Nodes w bN nk nl nr) (hm : nk.length = m) (hb : bN < w.heap.size) (hbH : bH < w.heap.size) (hk : m ≤ 8192)
    (hD : Down nk nl nr) (h0 : 0 ≤ s) (h1 : s = 0 ∨ s < m) (fu : Nat) (hf : s < fu) :
    Calls Try.prog 35 #[.pointer (some ⟨bH, 0, none⟩), .int .i32 s, .int .i32 x] w fun e w' => e = .returned (.bool (hasF nk nl nr x fu s)) ∧ Below w.heap.size w w' := by
  obtain ⟨s0, rfl⟩ : ∃ s0 : Nat, s = s0 := ⟨s.toNat, by omega⟩
  have HN := hide hN
  have HM := hide hm
  have HD := hide hD
  have hs0 : s0 ≤ 8192 := by omega
  have hs1 : s0 = 0 ∨ s0 < m := by omega
  have hf' : s0 < fu := by omega
  clear hN hm hD h0 h1 hf
  obtain ⟨R, hR⟩ : ∃ R, hasF nk nl nr x fu s0 = R := ⟨_, rfl⟩
  rw [hR]
  have HR0 := hide hR
  clear hR
  go_enter Try.func35, Try.ntmps35
  go_wp2_with fail
  go_loopw [1] (fun v wr => ∃ (t f : Nat), t ≤ 8192 ∧ (t = 0 ∨ t < m) ∧ t < f ∧ v = .int .i32 t ∧ hasF nk nl nr x f t = R ∧ Below w.heap.size w wr) (fun v _ => (intOf v).toNat)
  case atStart => exact ⟨s0, fu, hs0, hs1, hf', rfl, HR0.out, Below.refl _ _⟩
  case round =>
    obtain ⟨t, f, ht, ht1, htf, rfl, hR, hbel⟩ := hrel
    have HR := hide hR
    clear hR
    by_cases hz : t = 0
    · subst hz
      have hRf : R = false := by
        have := HR.out
        obtain ⟨g, rfl⟩ : ∃ g, f = g + 1 := ⟨f - 1, by omega⟩
        simp [hasF] at this
        exact this
      subst hRf
      go_wp2
      go_ret
      exact ⟨rfl, hbel⟩
    · have htm : t < m := by omega
      have hC := (HN.out t (by rw [HM.out]; exact htm)).below hbel hb
      have hd := HD.out t (by omega) (by rw [HM.out]; exact htm)
      obtain ⟨g, hg⟩ : ∃ g, f = g + 1 := ⟨f - 1, by omega⟩
      have hR' := HR.out
      rw [hg, hasF, if_neg (by omega), Int.toNat_natCast] at hR'
      have hH' := (hbel.cell (p := ⟨bH, 0, none⟩) hbH).trans hH
      obtain ⟨c0, c1, c2, c3, c4⟩ := hC
      obtain ⟨k, hke⟩ : ∃ k, nk.getD t 0 = k := ⟨_, rfl⟩
      obtain ⟨l, hle⟩ : ∃ l : Nat, nl.getD t 0 = l := ⟨(nl.getD t 0).toNat, by omega⟩
      obtain ⟨r, hre⟩ : ∃ r : Nat, nr.getD t 0 = r := ⟨(nr.getD t 0).toNat, by omega⟩
      rw [hke] at c0 hR'
      rw [hle] at c1 hR' hd
      rw [hre] at c2 hR' hd
      have hti : (t : Int) < (m : Int) := by omega
      have hzb : ((t : Int) == 0) = false := beq_eq_false_iff_ne.2 (by omega)
      have HRR := hide hR'
      have HBEL := hide hbel
      clear hR' hke hle hre hbel
      by_cases c : x < k
      · have hR2 : hasF nk nl nr x g l = R := by have := HRR.out; rw [if_pos c] at this; exact this
        have HR2 := hide hR2
        clear hR2
        go_wp2
        go_roundw
        case rel => exact ⟨l, g, by omega, by omega, by omega, rfl, HR2.out, HBEL.out.alloc HBEL.out.size _⟩
        case measure => simp [intOf]; omega
      · by_cases c' : k < x
        · have hR2 : hasF nk nl nr x g r = R := by have := HRR.out; rw [if_neg c, if_pos c'] at this; exact this
          have HR2 := hide hR2
          clear hR2
          go_wp2
          go_roundw
          case rel => exact ⟨r, g, by omega, by omega, by omega, rfl, HR2.out, HBEL.out.alloc HBEL.out.size _⟩
          case measure => simp [intOf]; omega
        · have hR2 : R = true := by have := HRR.out; rw [if_neg c, if_neg c'] at this; exact this.symm
          subst hR2
          go_wp2
          go_ret
          exact ⟨rfl, HBEL.out.alloc HBEL.out.size _⟩
end Go.Proofs.Qxb6616202a.Prune
