import Derived.Test.Qxb6616202aAdj
import Derived.WalkSmall
namespace Go.Proofs.Qxb6616202a.Flow
open Go.RowKit Go.Proofs.Qxb6616202a.Kit Go.Proofs.Qxb6616202a.FM
set_option linter.unusedVariables false
set_option linter.unusedSimpArgs false

/-- The four rows of a flow graph, in new memory. -/
structure Flow4 (n : Nat) (xs ys : List Int) (w w' : World) (b1 b2 b3 b4 : Nat) (F T G U : List Int) : Prop where
  o1 : Own .i32 w' b1 F
  o2 : Own .i32 w' b2 T
  o3 : Own .i32 w' b3 G
  o4 : Own .i32 w' b4 U
  f1 : IsF xs n F
  t1 : IsT xs ys T
  f2 : IsF ys n G
  t2 : IsT ys xs U
  bel : Below w.heap.size w w'
  g1 : w.heap.size ≤ b1
  g2 : w.heap.size ≤ b2
  g3 : w.heap.size ≤ b3
  g4 : w.heap.size ≤ b4
  l1 : b1 < w'.heap.size
  l2 : b2 < w'.heap.size
  l3 : b3 < w'.heap.size
  l4 : b4 < w'.heap.size

theorem Flow4.later {n : Nat} {xs ys : List Int} {w w1 w2 : World} {b1 b2 b3 b4 : Nat} {F T G U : List Int} (h : Flow4 n xs ys w w1 b1 b2 b3 b4 F T G U) (hb : Below w1.heap.size w1 w2) : Flow4 n xs ys w w2 b1 b2 b3 b4 F T G U :=
  have hs := hb.size
  ⟨h.o1.below hb h.l1, h.o2.below hb h.l2, h.o3.below hb h.l3, h.o4.below hb h.l4, h.f1, h.t1, h.f2, h.t2, h.bel.trans (hb.mono h.bel.size), h.g1, h.g2, h.g3, h.g4, Nat.lt_of_lt_of_le h.l1 hs, Nat.lt_of_lt_of_le h.l2 hs, Nat.lt_of_lt_of_le h.l3 hs, Nat.lt_of_lt_of_le h.l4 hs⟩

def sl (b n : Nat) : Value := .slice (some ⟨b, 0, none⟩) n n

def PGraph (n : Nat) (xs ys : List Int) (w : World) (e : Ending) (w' : World) : Prop :=
  ∃ b1 b2 b3 b4 F T G U, e = .returned (.agg #[sl b1 (n + 1), sl b2 xs.length, sl b3 (n + 1), sl b4 ys.length]) ∧ Flow4 n xs ys w w' b1 b2 b3 b4 F T G U

theorem graph_any (n : Nat) (a1 a2 : Option Addr) (c1 c2 : Nat) (xs ys : List Int) (w : World) (hl : ys.length = xs.length) (hn : n ≤ 65536) (hm : xs.length ≤ 65537)
    (h1 : Rd .i32 w a1 xs) (h2 : Rd .i32 w a2 ys) (b1 : ∀ j, j < xs.length → 0 ≤ xs.getD j 0 ∧ xs.getD j 0 < n) (b2 : ∀ j, j < ys.length → 0 ≤ ys.getD j 0 ∧ ys.getD j 0 < n) :
    Calls Try.prog 28 #[.int .i64 n, .slice a1 xs.length c1, .slice a2 ys.length c2] w (PGraph n xs ys w) := by
  have H1 := hide h1
  have H2 := hide h2
  have B1 := hide b1
  have B2 := hide b2
  have HL := hide hl
  clear h1 h2 b1 b2 hl
  go_enter Try.func28, Try.ntmps28
  go_wp2_with fail
  have hW0 : ∀ i, i < 4 → (w.alloc (.cells #[.slice none 0 0, .slice none 0 0, .slice none 0 0, .slice none 0 0] 85)).cell? ⟨w.heap.size, i, none⟩ = some (.slice none 0 0) ∧ (w.alloc (.cells #[.slice none 0 0, .slice none 0 0, .slice none 0 0, .slice none 0 0] 85)).frozen? ⟨w.heap.size, i, none⟩ = false := by
    intro i hi
    have hh := heap_alloc_new w (.cells #[.slice none 0 0, .slice none 0 0, .slice none 0 0, .slice none 0 0] 85)
    refine ⟨?_, froz_row hh⟩
    rw [cell_of_row _ _ i _ 85 _ hh]
    rcases (show i = 0 ∨ i = 1 ∨ i = 2 ∨ i = 3 by omega) with rfl | rfl | rfl | rfl <;> rfl
  have hsz : (w.alloc (.cells #[.slice none 0 0, .slice none 0 0, .slice none 0 0, .slice none 0 0] 85)).heap.size = w.heap.size + 1 := by simp
  have hbel : Below w.heap.size w (w.alloc (.cells #[.slice none 0 0, .slice none 0 0, .slice none 0 0, .slice none 0 0] 85)) := (Below.refl _ _).alloc (Nat.le_refl _) _
  generalize (w.alloc (.cells #[.slice none 0 0, .slice none 0 0, .slice none 0 0, .slice none 0 0] 85)) = W0 at *
  refine (adj_any n a1 a2 c1 c2 xs ys _ HL.out hn hm (H1.out.below hbel) (H2.out.below hbel) B1.out).mono ?_
  rintro e w1 ⟨bF, bT, F, T, rfl, oF, hF, oT, hT, bel1, gF, lF, gT, lT⟩
  have HWs := hide hsz
  clear hsz
  go_wp2_with fail
  have bel1' := bel1.mono (show w.heap.size ≤ W0.heap.size by have := HWs.out; omega)
  have belw1 : Below w.heap.size w w1 := hbel.trans bel1'
  refine (adj_any n a2 a1 c2 c1 ys xs _ HL.out.symm hn (by rw [HL.out]; exact hm) (H2.out.below belw1) (H1.out.below belw1) B2.out).mono ?_
  rintro e w2 ⟨bG, bU, G, U, rfl, oG, hG, oU, hU, bel2, gG, lG, gU, lU⟩
  have s1 := bel1.size
  have s2 := bel2.size
  have oF2 := oF.below bel2 lF
  have oT2 := oT.below bel2 lT
  have belw2 := belw1.trans (bel2.mono (by have := HWs.out; omega))
  have hr : ∀ i, i < 4 → w2.cell? ⟨w.heap.size, i, none⟩ = some (.slice none 0 0) ∧ w2.frozen? ⟨w.heap.size, i, none⟩ = false := fun i hi =>
    ⟨((bel2.cell (p := ⟨w.heap.size, i, none⟩) (by have := HWs.out; show w.heap.size < _; omega)).trans (bel1.cell (p := ⟨w.heap.size, i, none⟩) (by have := HWs.out; show w.heap.size < _; omega))).trans (hW0 i hi).1,
     ((bel2.frozen (p := ⟨w.heap.size, i, none⟩) (by have := HWs.out; show w.heap.size < _; omega)).trans (bel1.frozen (p := ⟨w.heap.size, i, none⟩) (by have := HWs.out; show w.heap.size < _; omega))).trans (hW0 i hi).2⟩
  obtain ⟨r0, z0⟩ := hr 0 (by omega)
  obtain ⟨r1, z1⟩ := hr 1 (by omega)
  obtain ⟨r2, z2⟩ := hr 2 (by omega)
  obtain ⟨r3, z3⟩ := hr 3 (by omega)
  have n1 : bF ≠ w.heap.size := by have := HWs.out; omega
  have n2 : bT ≠ w.heap.size := by have := HWs.out; omega
  have n3 : bG ≠ w.heap.size := by have := HWs.out; omega
  have n4 : bU ≠ w.heap.size := by have := HWs.out; omega
  have g1 : w.heap.size ≤ bF := by have := HWs.out; omega
  have g2 : w.heap.size ≤ bT := by have := HWs.out; omega
  have g3 : w.heap.size ≤ bG := by have := HWs.out; omega
  have g4 : w.heap.size ≤ bU := by have := HWs.out; omega
  have l1 : bF < w2.heap.size := by omega
  have l2 : bT < w2.heap.size := by omega
  clear hr hW0 bel1 bel2 bel1' belw1 oF oT gF gT gG gU lF lT s1 s2 hbel
  go_wp2
  refine bodyPost_ret (v := .agg #[sl bF (n + 1), sl bT xs.length, sl bG (n + 1), sl bU ys.length]) (by simp [results, Try.results28, go_sem, sl, *]) rfl ?_
  have le := Nat.le_refl w.heap.size
  exact ⟨bF, bT, bG, bU, F, T, G, U, rfl, (((oF2.other _ n1).other _ n1).other _ n1).other _ n1, (((oT2.other _ n2).other _ n2).other _ n2).other _ n2, (((oG.other _ n3).other _ n3).other _ n3).other _ n3, (((oU.other _ n4).other _ n4).other _ n4).other _ n4, hF, hT, hG, hU,
    (((belw2.setCell le _).setCell le _).setCell le _).setCell le _, g1, g2, g3, g4, by simpa [World.setCell] using l1, by simpa [World.setCell] using l2, by simpa [World.setCell] using lG, by simpa [World.setCell] using lU⟩

def PFlow (n : Nat) (xs ys : List Int) (w : World) (e : Ending) (w' : World) : Prop :=
  ∃ b1 b2 b3 b4 F T G U, e = .returned (.tuple #[.slice (some ⟨b1, 0, none⟩) (n + 1) (n + 1), .slice (some ⟨b2, 0, none⟩) xs.length xs.length, .slice (some ⟨b3, 0, none⟩) (n + 1) (n + 1), .slice (some ⟨b4, 0, none⟩) ys.length ys.length]) ∧ Flow4 n xs ys w w' b1 b2 b3 b4 F T G U

theorem flow_any (n : Nat) (a1 a2 : Option Addr) (c1 c2 : Nat) (xs ys : List Int) (w : World) (hl : ys.length = xs.length) (hn : n ≤ 65536) (hm : xs.length ≤ 65537)
    (h1 : Rd .i32 w a1 xs) (h2 : Rd .i32 w a2 ys) (b1 : ∀ j, j < xs.length → 0 ≤ xs.getD j 0 ∧ xs.getD j 0 < n) (b2 : ∀ j, j < ys.length → 0 ≤ ys.getD j 0 ∧ ys.getD j 0 < n) :
    Calls Try.prog 13 #[.int .i64 n, .slice a1 xs.length c1, .slice a2 ys.length c2] w (PFlow n xs ys w) := by
  have H1 := hide h1
  have H2 := hide h2
  have B1 := hide b1
  have B2 := hide b2
  have HL := hide hl
  clear h1 h2 b1 b2 hl
  go_enter Try.func13, Try.ntmps13
  go_wp2_with fail
  refine (graph_any n a1 a2 c1 c2 xs ys _ HL.out hn hm H1.out H2.out B1.out B2.out).mono ?_
  rintro e w1 ⟨b1, b2, b3, b4, F, T, G, U, rfl, HF⟩
  unfold sl
  have HF := hide HF
  go_wp2
  go_quiet (fail)
  go_wp2
  refine bodyPost_ret (v := .tuple #[.slice (some ⟨b1, 0, none⟩) (n + 1) (n + 1), .slice (some ⟨b2, 0, none⟩) xs.length xs.length, .slice (some ⟨b3, 0, none⟩) (n + 1) (n + 1), .slice (some ⟨b4, 0, none⟩) ys.length ys.length]) (by simp [results, Try.results13, go_sem]) rfl ?_
  exact ⟨b1, b2, b3, b4, F, T, G, U, rfl, HF.out.later (below_drewN ((Below.refl _ _).alloc (Nat.le_refl _) _) _)⟩
end Go.Proofs.Qxb6616202a.Flow
