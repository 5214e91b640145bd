import Derived.Test.Qxb6616202aPKey
import Derived.Deep.QuietTactic
import Derived.BigQuiet
namespace Go.Proofs.Qxb6616202a.Prune
open Go.RowKit Go.Proofs.Qxb6616202a.Kit
set_option linter.unusedVariables false
set_option linter.unusedSimpArgs false

/-- Item i of the list, as it lies in block b. -/
structure ItemC (w : World) (b o : Nat) (ln st : Int) : Prop where
  c0 : w.cell? ⟨b, o, none⟩ = some (.int .i64 ln)
  c1 : w.cell? ⟨b, o + 1, none⟩ = some (.bool false)
  c2 : w.cell? ⟨b, o + 2, none⟩ = some (.int .i32 st)
  c3 : w.cell? ⟨b, o + 3, none⟩ = some (.slice none 0 0)
  c4 : w.cell? ⟨b, o + 4, none⟩ = some (.bool true)
  c5 : w.cell? ⟨b, o + 5, none⟩ = some (.int .i32 0)
  c6 : w.cell? ⟨b, o + 6, none⟩ = some (.int .i32 0)
  c7 : w.cell? ⟨b, o + 7, none⟩ = some (.int .i32 0)
  c8 : w.cell? ⟨b, o + 8, none⟩ = some (.int .i32 0)
  c9 : w.cell? ⟨b, o + 9, none⟩ = some (.int .i32 0)
  c10 : w.cell? ⟨b, o + 10, none⟩ = some (.int .i32 0)
  c11 : w.cell? ⟨b, o + 11, none⟩ = some (.int .i32 0)
  c12 : w.cell? ⟨b, o + 12, none⟩ = some (.int .i32 0)
  c13 : w.cell? ⟨b, o + 13, none⟩ = some (.bool false)
def Items (w : World) (b : Nat) (il sl : List Int) : Prop := ∀ i, i < il.length → ItemC w b (i * 14) (il.getD i 0) (sl.getD i 0)
theorem ItemC.below {w w' : World} {b o B : Nat} {ln st : Int} (h : ItemC w b o ln st) (hb : Below B w w') (hB : b < B) : ItemC w' b o ln st := by
  have g : ∀ k, w'.cell? ⟨b, k, none⟩ = w.cell? ⟨b, k, none⟩ := fun k => hb.cell (p := ⟨b, k, none⟩) hB
  exact ⟨by rw [g]; exact h.c0, by rw [g]; exact h.c1, by rw [g]; exact h.c2, by rw [g]; exact h.c3, by rw [g]; exact h.c4, by rw [g]; exact h.c5, by rw [g]; exact h.c6, by rw [g]; exact h.c7, by rw [g]; exact h.c8, by rw [g]; exact h.c9, by rw [g]; exact h.c10, by rw [g]; exact h.c11, by rw [g]; exact h.c12, by rw [g]; exact h.c13⟩
theorem Items.below {w w' : World} {b B : Nat} {il sl : List Int} (h : Items w b il sl) (hb : Below B w w') (hB : b < B) : Items w' b il sl := fun i hi => (h i hi).below hb hB

/-- How many items stand on a line before x. -/
def idx (il : List Int) (x : Int) : Nat := il.countP fun y => decide (y < x)
def Rising (il : List Int) : Prop := ∀ i j, i < j → j < il.length → il.getD i 0 < il.getD j 0

set_option maxHeartbeats 400000 in
/-- The binary search over items lo .. hi - 1: the first place whose line is not before x. -/
theorem bsf_any (b off m c : Nat) (x : Int) (il sl : List Int) (w : World) (hI : ∀ i, i < m → ItemC w b (off + i * 14) (il.getD i 0) (sl.getD i 0)) (hm : m ≤ 65536) (hb : b < w.heap.size) (r : Nat) (hr : r ≤ m)
    (hlo : ∀ i, i < r → il.getD i 0 < x) (hhi : ∀ i, r ≤ i → i < m → ¬ il.getD i 0 < x) :
    Calls Try.prog 37 #[.slice (some ⟨b, off, none⟩) m c, .int .i64 x, .func (.func 38) #[] #[]] w fun e w' => (∃ ok, e = .returned (.tuple #[.int .i64 r, .bool ok])) ∧ Below w.heap.size w w' := by
  go_enter Try.func37, Try.ntmps37
  go_wp2_with fail
  go_loopw [9, 10] (fun i j wr => ∃ p q : Nat, p ≤ r ∧ r ≤ q ∧ q ≤ m ∧ i = .int .i64 p ∧ j = .int .i64 q ∧ Below w.heap.size w wr) (fun i j _ => (intOf j).toNat - (intOf i).toNat)
  case atStart => exact ⟨0, m, Nat.zero_le _, hr, Nat.le_refl _, rfl, rfl, Below.refl _ _⟩
  case round =>
    obtain ⟨p, q, hp, hq, hqm, rfl, rfl, hbel⟩ := hrel
    by_cases hlt : p < q
    · have hC := (hI ((p + q) / 2) (by omega)).below hbel hb
      obtain ⟨c0, c1, c2, c3, c4, c5, c6, c7, c8, c9, c10, c11, c12, c13⟩ := hC
      generalize sl.getD ((p + q) / 2) 0 = st at *
      have HLO := hide hlo
      have HHI := hide hhi
      have HI := hide hI
      clear hlo hhi hI
      obtain ⟨ln, hln⟩ : ∃ ln, il.getD ((p + q) / 2) 0 = ln := ⟨_, rfl⟩
      rw [hln] at c0
      have HLN := hide hln
      clear hln
      go_wp2_with fail
      refine (clo_any ln st x _).mono ?_
      rintro e w1 ⟨rfl, hb1⟩
      have hbel1 := hbel.trans (hb1.mono hbel.size)
      clear c0 c1 c2 c3 c4 c5 c6 c7 c8 c9 c10 c11 c12 c13 hb1 hbel
      by_cases hx : ln < x
      · rw [sgn_neg ln x hx]
        have hpr : (p + q) / 2 < r := by
          by_cases c : (p + q) / 2 < r
          · exact c
          · have := HHI.out ((p + q) / 2) (by omega) (by omega); rw [HLN.out] at this; omega
        go_wp2
        go_roundw
        case rel => exact ⟨(p + q) / 2 + 1, q, by omega, hq, hqm, by go_num, rfl, hbel1⟩
        case measure => simp [intOf]; omega
      · have hs := sgn_nn ln x hx
        have hpr : r ≤ (p + q) / 2 := by
          by_cases c : (p + q) / 2 < r
          · have := HLO.out ((p + q) / 2) c; rw [HLN.out] at this; omega
          · omega
        generalize sgn ln x = s at *
        go_wp2
        go_roundw
        case rel => exact ⟨p, (p + q) / 2, hp, hpr, by omega, rfl, by go_num, hbel1⟩
        case measure => simp [intOf]; omega
    · obtain rfl : p = r := by omega
      clear hlo hhi
      by_cases hpm : p < m
      · have hC := (hI p hpm).below hbel hb
        obtain ⟨c0, c1, c2, c3, c4, c5, c6, c7, c8, c9, c10, c11, c12, c13⟩ := hC
        generalize sl.getD p 0 = st at *
        generalize il.getD p 0 = ln at *
        have HI := hide hI
        clear hI
        go_wp2_with fail
        refine (clo_any ln st x _).mono ?_
        rintro e w1 ⟨rfl, hb1⟩
        have hbel1 := hbel.trans (hb1.mono hbel.size)
        generalize sgn ln x = s at *
        clear c0 c1 c2 c3 c4 c5 c6 c7 c8 c9 c10 c11 c12 c13 hb1 hbel
        go_wp2_with fail
        go_ret2
        exact ⟨⟨_, rfl⟩, hbel1⟩
      · have HI := hide hI
        clear hI
        have hg : decide ((p : Int) < (m : Int)) = false := decide_eq_false (by omega)
        go_wp2_with fail
        go_ret2
        exact ⟨⟨_, rfl⟩, hbel⟩
end Go.Proofs.Qxb6616202a.Prune
