import Derived.Test.Qxb6616202aRows
import Derived.Test.Qxb6616202aKit
import Derived.Deep.QuietTactic
import Derived.BigQuiet
import Derived.WalkSmall
namespace Go.Proofs.Qxb6616202a.Flow
open Go.RowKit Go.Proofs.Qxb6616202a.Kit
set_option linter.unusedVariables false
set_option linter.unusedSimpArgs false

/-- (nF, nT) is (oF, oT) with x put in at place P, the offsets past v one higher. -/
structure Ins (oF oT nF nT : List Int) (v P : Nat) (x : Int) : Prop where
  l1 : nF.length = oF.length
  l2 : nT.length = oT.length + 1
  hv : v < oF.length
  hP : P ≤ oT.length
  f : ∀ u, u < oF.length → nF.getD u 0 = oF.getD u 0 + if v < u then 1 else 0
  bd : ∀ u, u < oF.length → 0 ≤ oF.getD u 0 ∧ oF.getD u 0 ≤ 65537
  t1 : ∀ i, i < P → nT.getD i 0 = oT.getD i 0
  t2 : nT.getD P 0 = x
  t3 : ∀ i, P ≤ i → i < oT.length → nT.getD (i + 1) 0 = oT.getD i 0

def PTrue (w : World) (e : Ending) (w' : World) : Prop := e = .returned (.bool true) ∧ Below w.heap.size w w'

set_option maxHeartbeats 400000 in
theorem ins_any (b1 b2 b3 b4 c1 c2 c3 c4 : Nat) (oF oT nF nT : List Int) (v P k : Nat) (x : Int) (w : World) (o1 : Own .i32 w b1 oF) (o2 : Own .i32 w b2 oT) (o3 : Own .i32 w b3 nF) (o4 : Own .i32 w b4 nT)
    (hI : Ins oF oT nF nT v P x) (hk : oF.getD v 0 + k = P) (hm : oF.length ≤ 65537) (hm2 : oT.length ≤ 65537) :
    Calls Try.prog 14 #[.slice (some ⟨b1, 0, none⟩) oF.length c1, .slice (some ⟨b2, 0, none⟩) oT.length c2, .slice (some ⟨b3, 0, none⟩) nF.length c3, .slice (some ⟨b4, 0, none⟩) nT.length c4, .int .i64 v, .int .i64 k, .int .i32 x] w (PTrue w) := by
  have hv := hI.hv
  have hP := hI.hP
  rw [hI.l1, hI.l2]
  have HI := hide hI
  have HK := hide hk
  clear hI hk
  go_enter Try.func14, Try.ntmps14
  go_wp2_with fail
  go_loop [35] (fun i => ∃ j : Nat, j ≤ oF.length ∧ i = .int .i64 j) (fun i => oF.length - (intOf i).toNat)
  case atStart => exact ⟨0, Nat.zero_le _, rfl⟩
  case round =>
    obtain ⟨u, hu, rfl⟩ := hrel
    by_cases hlt : u < oF.length
    · have ho := o1.cell u hlt
      have hn := o3.cell u (by rw [HI.out.l1]; exact hlt)
      rw [HI.out.f u hlt] at hn
      obtain ⟨f0, f1⟩ := HI.out.bd u hlt
      generalize oF.getD u 0 = f at *
      by_cases hvu : v < u
      · rw [if_pos hvu] at hn
        go_wp2
        go_round
        case rel => exact ⟨u + 1, by omega, by go_num⟩
        case measure => simp [intOf]; omega
      · rw [if_neg hvu, Int.add_zero] at hn
        go_wp2
        go_round
        case rel => exact ⟨u + 1, by omega, by go_num⟩
        case measure => simp [intOf]; omega
    · have hc := o1.cell v hv
      obtain ⟨f0, f1⟩ := HI.out.bd v hv
      obtain ⟨f, hf⟩ : ∃ f : Nat, oF.getD v 0 = f := ⟨(oF.getD v 0).toNat, by omega⟩
      have hPe : P = f + k := by have := HK.out; omega
      clear HK
      subst hPe
      rw [hf] at hc f0 f1
      have HFE := hide hf
      clear hf
      go_wp2_with fail
      go_loopw [18] (fun i wr => ∃ j : Nat, j ≤ f + k ∧ i = .int .i64 j ∧ ∃ q, wr = w.drewN q) (fun i _ => (f + k) - (intOf i).toNat)
      case atStart => exact ⟨0, Nat.zero_le _, rfl, 0, rfl⟩
      case round =>
        obtain ⟨j, hj, rfl, q, rfl⟩ := hrel
        by_cases hjl : j < f + k
        · have ho := o2.cell j (by omega)
          have hn := o4.cell j (by rw [HI.out.l2]; omega)
          rw [HI.out.t1 j hjl] at hn
          have i1 : (j : Int) < (oT.length : Int) := by omega
          have i2 : (j : Int) < (oT.length : Int) + 1 := by omega
          generalize oT.getD j 0 = g at *
          go_wp2
          go_quiet (fail)
          go_wp2
          go_roundw
          case rel => exact ⟨j + 1, by omega, by go_num, _, rfl⟩
          case measure => simp [intOf]; omega
        · have hn := o4.cell (f + k) (by rw [HI.out.l2]; omega)
          rw [HI.out.t2] at hn
          go_wp2_with fail
          go_loopw [19] (fun i wr => ∃ j : Nat, f + k ≤ j ∧ j ≤ oT.length ∧ i = .int .i64 j ∧ ∃ q, wr = w.drewN q) (fun i _ => oT.length - (intOf i).toNat)
          case atStart => exact ⟨f + k, Nat.le_refl _, by omega, by go_num, q, rfl⟩
          case round =>
            obtain ⟨i, hi1, hi, rfl, r, rfl⟩ := hrel
            by_cases hil : i < oT.length
            · have ho := o2.cell i (by omega)
              have hn := o4.cell (i + 1) (by rw [HI.out.l2]; omega)
              rw [HI.out.t3 i hi1 hil] at hn
              have i1 : (i : Int) < (oT.length : Int) := by omega
              have i2 : (i : Int) + 1 < (oT.length : Int) + 1 := by omega
              generalize oT.getD i 0 = g at *
              go_wp2
              go_quiet (fail)
              go_wp2
              go_roundw
              case rel => exact ⟨i + 1, by omega, by omega, by go_num, _, rfl⟩
              case measure => simp [intOf]; omega
            · go_wp2
              go_ret
              exact ⟨rfl, below_drewN (Below.refl _ _) _⟩
end Go.Proofs.Qxb6616202a.Flow
