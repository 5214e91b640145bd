import Derived.Test.Qxb6616227aIMake
import Derived.RangeFuncNested
import Derived.RangeFuncBound
import Derived.RangeFuncCalls
import Derived.RangeFuncLeaves
import Derived.RangeFuncFrom
import Derived.Shelf.Abstract
import Derived.Shelf.RegionOpen
import Derived.OwnWalkIn
import Derived.TacticsInMore
import Derived.LoopNIn
import Derived.LoopIn
namespace Go.Proofs.Qxb6616227a.Ins
open Go.RowKit Go.Shelf
set_option linter.unusedVariables false
set_option linter.unusedSimpArgs false
attribute [local go_sem] Oper.semAt_some

/-- A place in a chain of m nodes. -/
abbrev Ix (m : Nat) := { j : Nat // j < m }
def encs (ns : Nat → Nat) (m : Nat) (x : Ix m) : Array Value := #[.int .i64 (x.1 : Int), .pointer (some ⟨ns x.1, 0, none⟩)]
/-- Two blocks lie as they lay. -/
def Kp (Bs g : Nat) (A B : World) : Prop := B.heap[Bs]? = A.heap[Bs]? ∧ B.heap[g]? = A.heap[g]?
theorem Kp.refl (Bs g : Nat) (A : World) : Kp Bs g A A := ⟨rfl, rfl⟩
theorem Kp.trans {Bs g : Nat} {A B C : World} (h : Kp Bs g A B) (k : Kp Bs g B C) : Kp Bs g A C := ⟨k.1.trans h.1, k.2.trans h.2⟩
theorem rev_step (m j : Nat) (h : j < m) : (List.range m).reverse.take (m - j) = (List.range m).reverse.take (m - 1 - j) ++ [j] := by
  have e : m - j = m - 1 - j + 1 := by omega
  have hl : m - 1 - j < (List.range m).reverse.length := by simp; omega
  rw [e, List.take_succ_eq_append_getElem hl]
  congr 1
  simp
  omega

set_option maxRecDepth 100000 in
set_option maxHeartbeats 2000000 in
/-- slices.Backward's closure: every place, from the last to the first; or a part. -/
theorem back_stops (n Bs g m cap : Nat) (ns : Nat → Nat) (hm : m ≤ 1000000) (hn : 1 ≤ n) (w : World) (hBs : w.cell? ⟨Bs, 0, none⟩ = some (.slice (some ⟨g, 0, none⟩) m cap)) (hc : ∀ j, j < m → w.cell? ⟨g, j, none⟩ = some (.pointer (some ⟨ns j, 0, none⟩))) :
    SeqStopsK Fence.wide n Try.prog 16 #[.pointer (some ⟨Bs, 0, none⟩)] (encs ns m) (Kp Bs g) (fun xs => xs.map (·.1) = (List.range m).reverse) (fun _ => True) m w := fun l J Jx W hW hJ hJx hY h0 => by
  have cB : ∀ W', Kp Bs g W W' → W'.cell? ⟨Bs, 0, none⟩ = some (.slice (some ⟨g, 0, none⟩) m cap) := fun W' hk =>
    (World.cell?_of_block (a := ⟨Bs, 0, none⟩) hk.1).trans (seen hW (cell_lt hBs) hBs)
  have cg : ∀ W' j, Kp Bs g W W' → j < m → W'.cell? ⟨g, j, none⟩ = some (.pointer (some ⟨ns j, 0, none⟩)) := fun W' j hk hj =>
    (World.cell?_of_block (a := ⟨g, j, none⟩) hk.2).trans (seen hW (cell_lt (hc j hj)) (hc j hj))
  have c0 := cB W (Kp.refl _ _ _)
  have HY := hide hY
  have CB := hide cB
  have CG := hide cg
  have HJ := hide hJ
  have HJX := hide hJx
  clear hY cB cg hJ hJx hc hBs hW
  refine callsIn_of_wp Try.func16 rfl trivial ?_ rfl
  simp only [Try.ntmps16, List.size_toArray, List.length_cons, List.length_nil, Nat.reduceAdd, Nat.reduceSub, Array.replicate_succ, Array.replicate_zero, List.push_toArray, List.append_toArray, List.nil_append, List.cons_append]
  gi_wp2
  gi_loopw [3] (fun i wr => ∃ pre : List (Ix m), Kp Bs g W wr ∧ J pre wr ∧ ((∃ j : Nat, j < m ∧ i = .int .i64 j ∧ pre.map (·.1) = (List.range m).reverse.take (m - 1 - j)) ∨ (i = .int .i64 (-1) ∧ pre.map (·.1) = (List.range m).reverse))) (fun i _ => (intOf i + 1).toNat)
  case atStart =>
    refine ⟨[], Kp.refl _ _ _, h0, ?_⟩
    by_cases hz : m = 0
    · right; subst hz; exact ⟨by simp, by simp⟩
    · left; exact ⟨m - 1, by omega, by go_num, by simp⟩
  case round =>
    obtain ⟨pre, hk, hJp, hcase⟩ := hrel
    rcases hcase with ⟨j, hj, rfl, hp⟩ | ⟨rfl, hp⟩
    · have hlen : pre.length = m - 1 - j := by have := congrArg List.length hp; simp at this; omega
      obtain ⟨fn, tmps, assign, body, hy, hR⟩ := HY.out pre ⟨j, hj⟩ wr hJp (by omega)
      have q1 := CB.out wr hk
      have q2 := CG.out wr j hk hj
      unfold encs at hy
      dsimp only at hy
      clear c0
      gi_wp2
      refine hR.mono ?_
      rintro e W3 (⟨rfl, hJ3, hk3⟩ | ⟨rfl, hJx3⟩)
      · gi_wp2
        go_roundw
        case rel =>
          refine ⟨pre ++ [⟨j, hj⟩], hk.trans hk3, hJ3, ?_⟩
          by_cases hz : j = 0
          · right
            subst hz
            refine ⟨by go_num, ?_⟩
            rw [List.map_append, hp]
            have := rev_step m 0 hj
            simp at this ⊢
            rw [← this]
            rw [List.take_of_length_le (by simp)]
          · left
            refine ⟨j - 1, by omega, by go_num, ?_⟩
            rw [List.map_append, hp, show m - 1 - (j - 1) = m - j by omega, rev_step m j hj]
            rfl
        case measure => simp [intOf]
      · gi_wp2
        refine bodyPost_ret (results_none rfl _ _ _) rfl ?_
        exact ⟨⟨_, rfl⟩, .inr ⟨_, trivial, hJx3⟩⟩
    · clear c0
      gi_wp2
      go_end0
      exact ⟨⟨_, rfl⟩, .inl ⟨pre, hp, hJp⟩⟩
end Go.Proofs.Qxb6616227a.Ins
