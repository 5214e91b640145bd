import Derived.Test.Qxb6616202aPItem
namespace Go.Proofs.Qxb6616202a.Prune
open Go.RowKit Go.Proofs.Qxb6616202a.Kit
set_option linter.unusedVariables false
set_option linter.unusedSimpArgs false

theorem ret_int {k : IntKind} {a b : Int} (h : a = b) : Ending.returned (.int k a) = .returned (.int k b) := by rw [h]
theorem getD_drop (l : List Int) (n i : Nat) : (l.drop n).getD i 0 = l.getD (n + i) 0 := by
  simp [List.getD_eq_getElem?_getD, List.getElem?_drop]

set_option maxHeartbeats 400000 in
theorem before_any (b m : Nat) (x : Int) (il sl : List Int) (w : World) (hI : Items w b il sl) (hl : il.length = m) (hm : m ≤ 8192) (hb : b < w.heap.size) (hR : Rising il) (r : Nat) (hr : r ≤ m)
    (hlo : ∀ i, i < r → il.getD i 0 < x) (hhi : ∀ i, r ≤ i → i < m → ¬ il.getD i 0 < x) :
    Calls Try.prog 34 #[.slice (some ⟨b, 0, none⟩) m m, .int .i64 x] w fun e w' => e = .returned (.int .i64 ((r : Int) - 1)) ∧ Below w.heap.size w w' := by
  have HI := hide hI
  have HL := hide hl
  have HR := hide hR
  have HLO := hide hlo
  have HHI := hide hhi
  clear hI hl hR hlo hhi
  go_enter Try.func34, Try.ntmps34
  go_wp2_with fail
  go_loop [5, 6, 7] (fun lo hi st => ∃ s v : Nat, 1 ≤ s ∧ s ≤ 2 * m + 1 ∧ v ≤ m ∧ (m : Int) - s < v ∧ r ≤ v ∧ lo = .int .i64 ((m : Int) - s) ∧ hi = .int .i64 v ∧ st = .int .i64 s) (fun lo _ _ => (intOf lo + m + 1).toNat)
  case atStart => exact ⟨1, m, by omega, by omega, Nat.le_refl _, by omega, hr, by go_num, rfl, rfl⟩
  case round =>
    obtain ⟨s, v, hs1, hs2, hh, hlh, hrh, rfl, rfl, rfl⟩ := hrel
    by_cases c1 : s ≤ m
    · obtain ⟨p, hp⟩ : ∃ p : Nat, (m : Int) - s = p := ⟨m - s, by omega⟩
      have hpm : p < m := by omega
      have hC := (HI.out p (by rw [HL.out]; exact hpm)).c0
      obtain ⟨ln, hln⟩ : ∃ ln, il.getD p 0 = ln := ⟨_, rfl⟩
      rw [hln] at hC
      have hp2 : m = p + s := by omega
      subst hp2
      have HLN := hide hln
      clear hln hp
      have e0 : ((p + s : Nat) : Int) - s = p := by omega
      rw [e0]
      by_cases c2 : ln < x
      · have hpr : p < r := by
          by_cases c : p < r
          · exact c
          · have := HHI.out p (by omega) hpm; rw [HLN.out] at this; omega
        have hq : ∃ q, r = p + 1 + q := ⟨r - (p + 1), by omega⟩
        obtain ⟨q, hq⟩ := hq
        have hqb : q ≤ 8192 := by omega
        have F1 : ∀ i, i < v - (p + 1) → ItemC w b ((p + 1) * 14 + i * 14) ((il.drop (p + 1)).getD i 0) ((sl.drop (p + 1)).getD i 0) := fun i hi => by
          have := HI.out (p + 1 + i) (by rw [HL.out]; omega)
          rw [getD_drop, getD_drop, show (p + 1) * 14 + i * 14 = (p + 1 + i) * 14 by omega]
          exact this
        have F2 : ∀ i, i < q → (il.drop (p + 1)).getD i 0 < x := fun i hi => by rw [getD_drop]; exact HLO.out _ (by omega)
        have F3 : ∀ i, q ≤ i → i < v - (p + 1) → ¬ (il.drop (p + 1)).getD i 0 < x := fun i hi1 hi2 => by
          rw [getD_drop]; have := HHI.out (p + 1 + i) (by omega) (by omega); omega
        have F1 := hide F1
        have F2 := hide F2
        have F3 := hide F3
        have HQ := hide hq
        clear hq
        go_wp2_with fail
        · have F3' := F3.out
          refine (bsf_any b 0 (v - (p + 1)) _ x (il.drop (p + 1)) (sl.drop (p + 1)) w (fun i hi => absurd hi (by omega)) (by omega) hb q (by have := HQ.out; omega) F2.out (fun i hi1 hi2 => absurd hi2 (by omega))).mono ?_
          rintro e w1 ⟨⟨ok, rfl⟩, hb1⟩
          go_wp2_with fail
          go_ret
          exact ⟨ret_int (by have := HQ.out; omega), hb1⟩
        · refine (bsf_any b _ (v - (p + 1)) _ x (il.drop (p + 1)) (sl.drop (p + 1)) w F1.out (by omega) hb q (by have := HQ.out; omega) F2.out (fun i hi1 hi2 => by have := F3.out i hi1 hi2; omega)).mono ?_
          rintro e w1 ⟨⟨ok, rfl⟩, hb1⟩
          go_wp2_with fail
          go_ret
          exact ⟨ret_int (by have := HQ.out; omega), hb1⟩
      · have hpr : r ≤ p := by
          by_cases c : p < r
          · have := HLO.out p c; rw [HLN.out] at this; omega
          · omega
        go_wp2_with fail
        go_round
        case rel => exact ⟨2 * s, p, by omega, by omega, by omega, by omega, hpr, by go_num, rfl, by go_num⟩
        case measure => simp [intOf]; omega
    · obtain ⟨q, hq⟩ : ∃ q : Nat, s = m + 1 + q := ⟨s - (m + 1), by omega⟩
      subst hq
      have e0 : (m : Int) - ((m + 1 + q : Nat) : Int) = -1 - q := by omega
      rw [e0]
      have F1 : ∀ i, i < v → ItemC w b (0 + i * 14) (il.getD i 0) (sl.getD i 0) := fun i hi => by
        rw [Nat.zero_add]; exact HI.out i (by rw [HL.out]; omega)
      have F3 : ∀ i, r ≤ i → i < v → ¬ il.getD i 0 < x := fun i hi1 hi2 => by
        have := HHI.out i hi1 (by omega); omega
      have F1 := hide F1
      have F3 := hide F3
      have hrb : r ≤ 8192 := by omega
      by_cases hq0 : q = 0
      · subst hq0
        have e1 : (-1 : Int) - ((0 : Nat) : Int) = -1 := by omega
        rw [e1]
        clear e0 e1
        go_wp2_with fail
        refine (bsf_any b 0 v _ x il sl w F1.out (by omega) hb r hrh HLO.out (fun i hi1 hi2 => by have := F3.out i hi1 hi2; omega)).mono ?_
        rintro e w1 ⟨⟨ok, rfl⟩, hb1⟩
        go_wp2_with fail
        go_ret
        exact ⟨ret_int (by omega), hb1⟩
      · have hq1 : (-1 : Int) - q < -1 := by omega
        go_wp2_with fail
        refine (bsf_any b 0 v _ x il sl w F1.out (by omega) hb r hrh HLO.out (fun i hi1 hi2 => by have := F3.out i hi1 hi2; omega)).mono ?_
        rintro e w1 ⟨⟨ok, rfl⟩, hb1⟩
        go_wp2_with fail
        go_ret
        exact ⟨ret_int (by omega), hb1⟩
end Go.Proofs.Qxb6616202a.Prune
