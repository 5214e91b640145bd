import Derived.Test.Qxb6616202aPStD
import Derived.Test.Qxb6616202aPKey
import Derived.StillTailTactics
import Derived.BigQuiet
namespace Go.Proofs.Qxb6616202a.Prune
open Go.RowKit Go.Proofs.Qxb6616202a.Kit Go.Proofs.Qxb6616202a.Flow
set_option linter.unusedVariables false
set_option linter.unusedSimpArgs false

/-- What pruning leaves. -/
def PruneTo (G : Geo) (w : World) (E : List Ent) (e : Ending) (w' : World) : Prop :=
  e = .returned (.tuple #[]) ∧ Below G.base w w' ∧ (∀ b, G.stat b → w'.heap[b]? = w.heap[b]?) ∧ ∃ rk', PState G w' (G.done E E.length) (sumL (G.done E E.length)) (sumL (G.done E E.length)) rk'
/-- What the trees and the items are known to be. -/
structure Good (G : Geo) : Prop where
  rise : Rising G.il
  tree : ∃ lo hi, Tree G.nk G.nl G.nr lo hi
  sets : ∀ i, i < G.il.length → G.sl.getD i 0 = 0 ∨ (0 ≤ G.sl.getD i 0 ∧ G.sl.getD i 0 < G.nk.length)
  mI : G.il.length ≤ 8192
  mN : G.nk.length ≤ 8192
  i1 : -2147483648 ≤ G.id
  i2 : G.id ≤ 2147483647

theorem sum_done_le (G : Geo) (E : List Ent) (i : Nat) : ((G.done E i).map fun e => e.xs.length).sum ≤ (E.map fun e => e.xs.length).sum := by
  have h := sum_done G (E.take i)
  have e : G.done (E.take i) (E.take i).length = G.done E i := by unfold Geo.done; rw [List.take_length]
  rw [e] at h
  have h2 : ((E.take i).map fun e => e.xs.length).sum + ((E.drop i).map fun e => e.xs.length).sum = (E.map fun e => e.xs.length).sum := by
    rw [← List.sum_append, ← List.map_append, List.take_append_drop]
  omega
theorem List.single_le_sum_nat (l : List Nat) (x : Nat) (h : x ∈ l) : x ≤ l.sum := by
  induction l with
  | nil => simp at h
  | cons y ys ih =>
    rcases List.mem_cons.1 h with rfl | h
    · simp
    · have := ih h; simp; omega

theorem Nodes.drew {w : World} {b : Nat} {nk nl nr : List Int} (h : Nodes w b nk nl nr) : Nodes w.drew b nk nl nr := fun i hi => ⟨(h i hi).c0, (h i hi).c1, (h i hi).c2, (h i hi).c3, (h i hi).c4⟩
theorem still_yes {ops : Array Oper} {w : World} {Q : Act → Prop} {a : Act} {o : Oper} {rest : List Oper} (hw : Region.wanted o (yielded ops a.tmps) = true) (h : ∀ K : Act → Prop, (∀ a, wpStill Try.prog ops w Q rest a → K a) → o.still Try.prog a w K) : wpStill Try.prog ops w Q (o :: rest) a := by
  refine wpStill_step fun K hK => ?_
  rw [if_pos hw]; exact h K hK
theorem still_no {ops : Array Oper} {w : World} {Q : Act → Prop} {a : Act} {o : Oper} {rest : List Oper} (hw : Region.wanted o (yielded ops a.tmps) = false) (h : ∀ K : Act → Prop, (∀ a, wpStill Try.prog ops w Q rest a → K a) → K (a.put o.dst undef)) : wpStill Try.prog ops w Q (o :: rest) a := by
  refine wpStill_step fun K hK => ?_
  rw [if_neg (by rw [hw]; exact Bool.false_ne_true)]; exact h K hK
theorem region_still_tail {id : Nat} {Q : Exit → Act → World → Prop} {a : Act} {w : World} {l : List Oper} (n : Nat) (hm : Try.prog.follows .mixedOrders = true) (hB : Region.lexTailB .any l.toArray n = true)
    (h : wpStill Try.prog l.toArray w.drew (fun a' => wpList Try.prog l.toArray Q (l.drop n) a' w.drew) (l.take n) a) : (Code.region id l.toArray true).wp Try.prog Q a w := wp_region_still_tail n hm hB h

attribute [local irreducible] wpStill

set_option maxRecDepth 100000 in
set_option maxHeartbeats 20000000 in
theorem prune_any (G : Geo) (hG : Good G) (w : World) (E : List Ent) (st pr : Int) (rk : List Int) (h : PState G w E st pr rk) :
    Calls Try.prog 31 #[.pointer (some ⟨G.bS, 0, none⟩), .pointer (some ⟨G.bL, 0, none⟩)] w (PruneTo G w E) := by
  have H := hide h
  have HG := hide hG
  have HP := hide (PL.start h)
  obtain ⟨l0, l1, l2, l3, l4, l5, l6⟩ := lobj_cells h.hL
  have f5 := lobj_froz h.hL 5
  have ct : ∀ w, (Instr.slice 31 (.slice G.aK E.length G.cK) none (some (.int .i64 0)) none).run Try.prog w = .ok (.slice G.aK 0 G.cK) w := fun w => cut31 _ _ _ w
  have hEl := h.ln
  have hi1 := hG.i1
  have hi2 := hG.i2
  clear h hG
  go_enter Try.func31, Try.ntmps31
  go_wp2_with fail
  clear ct l0 l1 l2 l3 l4 l5 l6 f5
  go_loopw [4, 26] (fun v iv wr => ∃ i : Nat, i ≤ E.length ∧ v = .slice G.aK (G.done E i).length G.cK ∧ iv = .int .i64 i ∧ PL G w E rk pr i wr) (fun _ iv _ => E.length - (intOf iv).toNat)
  case atStart => exact ⟨0, Nat.zero_le _, rfl, rfl, HP.out⟩
  case round =>
    obtain ⟨i, hi, rfl, rfl, hPL⟩ := hrel
    clear HP
    have HPL := hide hPL
    clear hPL
    by_cases hlt : i < E.length
    · have hok := HPL.out.hE E[i] (by rw [List.mem_append]; right; rw [drop_cons hlt]; exact List.mem_cons_self)
      have hn : E ≠ [] := by rintro rfl; simp at hlt
      obtain ⟨kA, _, kL, kC, kT⟩ := H.out.hK hn
      have hdi := done_le G E i
      have hrow := HPL.out.hK hn
      have cK : wr.cell? ⟨G.gK, i, none⟩ = some (.int .i32 E[i].lock) := by
        rw [cell_of_row _ _ _ _ _ _ hrow, irow_get _ _ _ (by simp; omega)]
        have := row_get ((G.done E i).map (·.lock)) rk (E.map (·.lock)) i (by simpa using hdi) (by simpa using hlt) (by simpa using kT) (by simp; omega)
        simp only [List.length_map] at this
        rw [this]
        simp [List.getD, hlt]
      have hbd := H.out.bd E[i] (List.getElem_mem hlt)
      have hmap := HPL.out.hM
      rw [kv_split G E i hlt] at hmap
      have hlook := look_hit hmap (keys_apart H.out hlt) false
      simp only [Bool.false_eq_true, if_false] at hlook
      have ct := fun w => cut39 E[i].a E[i].xs.length E[i].c w
      obtain ⟨l0, l1, l2, l3, l4, l5, l6⟩ := lobj_cells HPL.out.hL
      have hST := H.out.stat.same HPL.out.st HPL.out.bel.size
      have cS3 := hST.s3
      have IL0 := hide (IL.start (G := G) hok)
      have HOK := hide hok
      have HMAP := hide hmap
      have HKL := hide (show rk.length = G.cK from kL)
      have HKC := hide kC
      have hxl : E[i].xs.length ≤ 65536 := by
        have h1 := H.out.sm
        have h2 : E[i].xs.length ≤ (E.map fun e => e.xs.length).sum := List.single_le_sum_nat _ _ (List.mem_map.2 ⟨E[i], List.getElem_mem hlt, rfl⟩)
        omega
      have HN := hide hn
      clear hok kL kC kT hrow hmap hST hn
      rw [kA]
      have hii : (i : Int) < (E.length : Int) := by omega
      obtain ⟨lock, hlk⟩ : ∃ v, E[i].lock = v := ⟨_, rfl⟩
      obtain ⟨ea, hea⟩ : ∃ v, E[i].a = v := ⟨_, rfl⟩
      obtain ⟨ec, hec⟩ : ∃ v, E[i].c = v := ⟨_, rfl⟩
      obtain ⟨n, hxn⟩ : ∃ v, E[i].xs.length = v := ⟨_, rfl⟩
      rw [hlk] at cK hlook hbd
      rw [hea, hec, hxn] at hlook ct
      rw [hxn] at hxl
      have HLK := hide hlk
      have HEA := hide hea
      have HEC := hide hec
      have HXN := hide hxn
      have HKA := hide kA
      clear hlk hea hec hxn kA
      go_wp2_with (go_at_call 30; refine (key_any _ _ _ hi1 hi2 hbd.1 hbd.2).mono ?_; rintro e w' ⟨rfl, hw⟩; subst w')
      clear hlook ct l0 l1 l2 l3 l4 l5 l6 cK
      generalize wr = wo at *
      go_loopw [9, 46] (fun v jv wx => ∃ j : Nat, j ≤ n ∧ v = .slice ea (G.K E[i] j).length ec ∧ jv = .int .i64 j ∧ IL G wo wx E[i] j) (fun _ jv _ => n - (intOf jv).toNat)
      case atStart => exact ⟨0, Nat.zero_le _, rfl, rfl, IL0.out⟩
      case round =>
        obtain ⟨j, hj, rfl, rfl, hIL⟩ := hrel
        have HIL := hide hIL
        clear hIL IL0
        by_cases hjn : j < n
        · obtain ⟨hea', cj⟩ := HIL.out.get HOK.out j (Nat.le_refl _) (by rw [HXN.out]; exact hjn)
          obtain rfl : ea = some ⟨E[i].g, 0, none⟩ := HEA.out.symm.trans hea'
          have hxne : E[i].xs ≠ [] := by intro q; have := HXN.out; rw [q] at this; simp at this; omega
          have HXNE := hide hxne
          obtain ⟨t1, t2, t3, t4, t5, t6⟩ := HPL.out.turn H.out.ap hlt H.out.stat HIL.out.turn
          have hST := H.out.stat.same t1 t6.size
          obtain ⟨l0, l1, l2, l3, l4, l5, l6⟩ := lobj_cells t2
          have hrise := HG.out.rise
          have hKle := G.K_le E[i] j
          obtain ⟨x, hx⟩ : ∃ x, E[i].xs.getD j 0 = x := ⟨_, rfl⟩
          rw [hx] at cj
          have hr1 := idx_le G.il x
          have hlo : ∀ k, k < idx G.il x → G.il.getD k 0 < x := fun k hk => (idx_iff G.il hrise x k (by omega)).2 hk
          have hhi : ∀ k, idx G.il x ≤ k → k < G.il.length → ¬ G.il.getD k 0 < x := fun k hk hk2 q => by have := (idx_iff G.il hrise x k hk2).1 q; omega
          have BEF := hide (before_any G.bI G.il.length x G.il G.sl wr hST.items rfl HG.out.mI hST.ltI hrise (idx G.il x) hr1 hlo hhi)
          obtain ⟨r, hr⟩ : ∃ r, idx G.il x = r := ⟨_, rfl⟩
          rw [hr] at BEF hr1
          have hm1 := HG.out.mI
          have HR := hide hr
          have HX := hide hx
          obtain ⟨g, hg⟩ : ∃ g, E[i].g = g := ⟨_, rfl⟩
          have HGE := hide hg
          obtain ⟨kn, hkn⟩ : ∃ kn, (G.K E[i] j).length = kn := ⟨_, rfl⟩
          have HKN := hide hkn
          rw [hkn] at hKle
          rw [hg] at cj
          rw [hkn, hg]
          have hji : (j : Int) < (n : Int) := by omega
          clear t1 t2 t3 t4 t5 t6 hST l0 l2 l3 l4 l5 l6 hrise hlo hhi hea' hxne hr hx hg hkn
          go_upto_region 12 with (go_at_call 34; refine BEF.out.mono ?_; rintro e wy ⟨rfl, hby⟩)
          have hIL2 := HIL.out.below hby
          clear HIL BEF cj l1
          obtain ⟨t1, t2, t3, t4, t5, t6⟩ := HPL.out.turn H.out.ap hlt H.out.stat hIL2.turn
          have hST := H.out.stat.same t1 t6.size
          obtain ⟨l0, l1, l2, l3, l4, l5, l6⟩ := lobj_cells t2
          have HIL := hide hIL2
          have HST := hide hST
          have cS0 := hST.s0
          clear t1 t2 t3 t4 t5 t6 hST l0 l2 l3 l4 l5 l6 hIL2 hby
          have NOCALL : ∀ wq, Below wy.heap.size wy wq → keep G.nk G.nl G.nr G.il G.sl E[i].lock E[i].xs j = false → ∃ j' : Nat, j' ≤ n ∧ Value.slice (some ⟨g, 0, none⟩) kn ec = .slice (some ⟨g, 0, none⟩) (G.K E[i] j').length ec ∧ Value.int .i64 ((j : Int) + 1) = .int .i64 j' ∧ IL G wo wq E[i] j' := by
            intro wq hwq hk
            refine ⟨j + 1, by omega, ?_, by go_num, (HIL.out.no hk).below hwq⟩
            have : G.K E[i] (j + 1) = G.K E[i] j := kl_no hk
            rw [this, HKN.out]
          have NOCALL := hide NOCALL
          have re : (r : Int) - 1 + 1 = r := by omega
          try rw [re]
          by_cases cr : r < G.il.length
          · have hit := HST.out.items r cr
            obtain ⟨ic0, ic1, ic2, ic3, ic4, ic5, ic6, ic7, ic8, ic9, ic10, ic11, ic12, ic13⟩ := hit
            have hset := HG.out.sets r cr
            obtain ⟨lo, hi', hT⟩ := HG.out.tree
            have hb1 : 0 ≤ G.sl.getD r 0 := by omega
            have hb2 : G.sl.getD r 0 = 0 ∨ G.sl.getD r 0 < G.nk.length := by omega
            have hb3 : G.sl.getD r 0 < ((G.nk.length + 1 : Nat) : Int) := by omega
            have hhas := has_any G.bH G.bN G.nk.length G.nk G.nl G.nr (G.sl.getD r 0) lock wy.drew HST.out.h0 HST.out.nodes.drew rfl HST.out.ltN (cell_lt HST.out.h0) HG.out.mN hT.dn hb1 hb2 (G.nk.length + 1) hb3
            have hHold : hasF G.nk G.nl G.nr lock (G.nk.length + 1) (G.sl.getD r 0) = Hold G.nk G.nl G.nr G.sl lock r := has_sub hT lock _ _ hb1 hb2 hb3
            rw [hHold] at hhas
            have hkeep : ∀ b : Bool, (decide (j + 1 = n) || decide (G.il.getD r 0 < E[i].xs.getD (j + 1) 0)) = b → keep G.nk G.nl G.nr G.il G.sl E[i].lock E[i].xs j = (b && Hold G.nk G.nl G.nr G.sl lock r) := by
              intro b hb
              unfold keep
              rw [HX.out, HR.out, HXN.out, HLK.out, hb, decide_eq_true cr, Bool.true_and]
            have HKEEP := hide hkeep
            obtain ⟨sr, hsr⟩ : ∃ v, G.sl.getD r 0 = v := ⟨_, rfl⟩
            obtain ⟨lr, hlr⟩ : ∃ v, G.il.getD r 0 = v := ⟨_, rfl⟩
            obtain ⟨ho, hho⟩ : ∃ v, Hold G.nk G.nl G.nr G.sl lock r = v := ⟨_, rfl⟩
            rw [hsr] at ic2 hhas
            rw [hlr] at ic0 HKEEP
            rw [hho] at hhas HKEEP
            have HAS := hide hhas
            clear ic1 ic3 ic4 ic5 ic6 ic7 ic8 ic9 ic10 ic11 ic12 ic13 hset hT lo hi' hb1 hb2 hb3 hHold hhas hkeep hsr hlr hho
            have cri : (r : Int) < (G.il.length : Int) := by omega
            by_cases cj1 : j + 1 = n
            · have cji : (j : Int) + 1 = (n : Int) := by omega
              have cjb : ((j : Int) + 1 == (n : Int)) = true := by rw [cji]; exact beq_self_eq_true _
              have wn : IntKind.i64.wrap (n : Int) = n := by rw [IntKind.wrap_i64]; omega
              have hk := HKEEP.out true (by rw [decide_eq_true cj1]; rfl)
              have HK := hide hk
              clear hk
              as_aux_lemma =>
                have hec2 : E[i].row.length = ec ∧ E[i].xs.length ≤ ec := by
                  rcases HOK.out with q | q
                  · exact absurd q.1 HXNE.out
                  · rw [← HEC.out]; exact ⟨q.2.2.2.1, q.2.2.2.2.1⟩
                rw [HXN.out] at hec2
                have hkc : kn < ec := by omega
                have hRl : (G.K E[i] j ++ E[i].row.drop (G.K E[i] j).length).length = ec := by have := HKN.out; simp; omega
                have hrl2 : (G.K E[i] j).length < E[i].row.length := by rw [HKN.out]; omega
                have HRL := hide hRl
                have HRL2 := hide hrl2
                clear hec2 hRl hrl2
                refine region_still_tail 46 (by kernel_rfl) (by kernel_rfl) ?_
                simp only [List.take_succ_cons, List.take_zero, List.drop_succ_cons, List.drop_zero]
                iterate 14 (refine still_yes (by kernel_rfl) (fun K hK => ?_); go_simp; refine hK _ ?_; clear hK K)
                iterate 15 (refine still_no (by kernel_rfl) (fun K hK => ?_); go_simp; refine hK _ ?_; clear hK K)
                iterate 17 (refine still_yes (by kernel_rfl) (fun K hK => ?_); go_simp; refine hK _ ?_; clear hK K)
                refine wpStill_nil ?_
                try clear cjb
                try clear cji
                cases ho with
                | false =>
                  go_wp2_with (go_at_call 35; refine HAS.out.mono ?_; rintro e wz ⟨rfl, hbz⟩)
                  go_roundw
                  case rel => exact NOCALL.out _ ((below_drewN (Below.refl _ _) 1).trans hbz) (by simpa using HK.out)
                  case measure => simp [intOf]; omega
                | true =>
                  go_wp2_with (first
                    | (go_at_call 35; refine HAS.out.mono ?_; rintro e wz ⟨rfl, hbz⟩
                       have hI3 := HIL.out.below ((below_drewN (Below.refl _ _) 1).trans hbz)
                       have hrz := hI3.row HXNE.out
                       rw [HGE.out] at hrz
                       have HRZ := hide hrz
                       have HI3 := hide hI3
                       clear hI3 hrz hbz)
                    | (at_builtin; refine append_room rfl _ _ 39 3 .i64 8 rfl Try.underlying39 Flow.Try.info3 g kn ec wz.heap.size (G.K E[i] j ++ E[i].row.drop (G.K E[i] j).length) x rfl rfl ((Below.heap_alloc _ _ _ (obj_lt HRZ.out)).trans HRZ.out) HRL.out (by rw [cell_of_row _ _ 0 _ 3 _ (heap_alloc_new wz _)]; rfl) hkc ?_; intro wq hq1 hq2
                       have HQ1 := hide hq1
                       have HQ2 := hide hq2
                       clear hq1 hq2))
                  go_roundw
                  case rel =>
                    have hk : keep G.nk G.nl G.nr G.il G.sl E[i].lock E[i].xs j = true := by simpa using HK.out
                    have hq1 := HQ1.out
                    have hq2 := HQ2.out
                    rw [← HGE.out] at hq1 hq2
                    rw [← HX.out, ← HKN.out] at hq1
                    refine ⟨j + 1, by omega, ?_, by go_num, (HI3.out.below ((Below.refl _ _).alloc (Nat.le_refl _) _)).yes hk HXNE.out HRL2.out hq2 hq1⟩
                    have : G.K E[i] (j + 1) = G.K E[i] j ++ [E[i].xs.getD j 0] := kl_yes hk
                    rw [this, List.length_append, HKN.out]; rfl
                  case measure => simp [intOf]; omega
            · have cjb : ((j : Int) + 1 == (n : Int)) = false := beq_eq_false_iff_ne.2 (by omega)
              have cj2 : (j : Int) + 1 < (n : Int) := by omega
              have cj3 : j + 1 < n := by omega
              have cj0 : (0 : Int) ≤ (j : Int) + 1 := by omega
              have wj : IntKind.i64.wrap ((j : Int) + 1) = (j : Int) + 1 := by rw [IntKind.wrap_i64]; omega
              have cjne : ¬ ((j : Int) + 1 = (n : Int)) := by omega
              obtain ⟨_, cj'⟩ := HIL.out.get HOK.out (j + 1) (by omega) (by rw [HXN.out]; omega)
              rw [HGE.out] at cj'
              obtain ⟨y, hy⟩ : ∃ v, E[i].xs.getD (j + 1) 0 = v := ⟨_, rfl⟩
              rw [hy] at HKEEP cj'
              clear hy
              by_cases cy : lr < y
              · have hk := HKEEP.out true (by rw [decide_eq_true cy]; simp)
                have HK := hide hk
                clear hk
                as_aux_lemma =>
                  have hec2 : E[i].row.length = ec ∧ E[i].xs.length ≤ ec := by
                    rcases HOK.out with q | q
                    · exact absurd q.1 HXNE.out
                    · rw [← HEC.out]; exact ⟨q.2.2.2.1, q.2.2.2.2.1⟩
                  rw [HXN.out] at hec2
                  have hkc : kn < ec := by omega
                  have hRl : (G.K E[i] j ++ E[i].row.drop (G.K E[i] j).length).length = ec := by have := HKN.out; simp; omega
                  have hrl2 : (G.K E[i] j).length < E[i].row.length := by rw [HKN.out]; omega
                  have HRL := hide hRl
                  have HRL2 := hide hrl2
                  clear hec2 hRl hrl2
                  refine region_still_tail 46 (by kernel_rfl) (by kernel_rfl) ?_
                  simp only [List.take_succ_cons, List.take_zero, List.drop_succ_cons, List.drop_zero]
                  iterate 46 (refine still_yes (by kernel_rfl) (fun K hK => ?_); go_simp; refine hK _ ?_; clear hK K)
                  refine wpStill_nil ?_
                  try clear cjb
                  try clear cji
                  cases ho with
                  | false =>
                    go_wp2_with (go_at_call 35; refine HAS.out.mono ?_; rintro e wz ⟨rfl, hbz⟩)
                    go_roundw
                    case rel => exact NOCALL.out _ ((below_drewN (Below.refl _ _) 1).trans hbz) (by simpa using HK.out)
                    case measure => simp [intOf]; omega
                  | true =>
                    go_wp2_with (first
                      | (go_at_call 35; refine HAS.out.mono ?_; rintro e wz ⟨rfl, hbz⟩
                         have hI3 := HIL.out.below ((below_drewN (Below.refl _ _) 1).trans hbz)
                         have hrz := hI3.row HXNE.out
                         rw [HGE.out] at hrz
                         have HRZ := hide hrz
                         have HI3 := hide hI3
                         clear hI3 hrz hbz)
                      | (at_builtin; refine append_room rfl _ _ 39 3 .i64 8 rfl Try.underlying39 Flow.Try.info3 g kn ec wz.heap.size (G.K E[i] j ++ E[i].row.drop (G.K E[i] j).length) x rfl rfl ((Below.heap_alloc _ _ _ (obj_lt HRZ.out)).trans HRZ.out) HRL.out (by rw [cell_of_row _ _ 0 _ 3 _ (heap_alloc_new wz _)]; rfl) hkc ?_; intro wq hq1 hq2
                         have HQ1 := hide hq1
                         have HQ2 := hide hq2
                         clear hq1 hq2))
                    go_roundw
                    case rel =>
                      have hk : keep G.nk G.nl G.nr G.il G.sl E[i].lock E[i].xs j = true := by simpa using HK.out
                      have hq1 := HQ1.out
                      have hq2 := HQ2.out
                      rw [← HGE.out] at hq1 hq2
                      rw [← HX.out, ← HKN.out] at hq1
                      refine ⟨j + 1, by omega, ?_, by go_num, (HI3.out.below ((Below.refl _ _).alloc (Nat.le_refl _) _)).yes hk HXNE.out HRL2.out hq2 hq1⟩
                      have : G.K E[i] (j + 1) = G.K E[i] j ++ [E[i].xs.getD j 0] := kl_yes hk
                      rw [this, List.length_append, HKN.out]; rfl
                    case measure => simp [intOf]; omega
              · have hk := HKEEP.out false (by rw [decide_eq_false cy, decide_eq_false cj1]; rfl)
                have HK := hide hk
                clear hk
                go_quiet (fail)
                go_wp2_with fail
                go_roundw
                case rel => exact NOCALL.out _ (below_drewN (Below.refl _ _) _) HK.out
                case measure => simp [intOf]; omega
          · have gd : decide ((r : Int) < (G.il.length : Int)) = false := decide_eq_false (by omega)
            have gd2 : decide (r < G.il.length) = false := decide_eq_false cr
            have hk : keep G.nk G.nl G.nr G.il G.sl E[i].lock E[i].xs j = false := by
              unfold keep; rw [HX.out, HR.out, gd2]; rfl
            have HK := hide hk
            clear hk
            go_quiet (fail)
            go_wp2_with fail
            go_roundw
            case rel => exact NOCALL.out _ (below_drewN (Below.refl _ _) _) HK.out
            case measure => simp [intOf]; omega
        · obtain rfl : j = n := by omega
          have hfe : G.K E[i] j = G.filt E[i] := by rw [← HXN.out]; rfl
          rw [hfe]
          have HFE := hide hfe
          clear hfe
          obtain ⟨t1, t2, t3, t4, t5, t6⟩ := HPL.out.turn H.out.ap hlt H.out.stat HIL.out.turn
          rw [kv_split G E i hlt, HLK.out] at t3
          have hA := keys_apart H.out hlt
          rw [HLK.out] at hA
          have cS3 := (H.out.stat.same t1 t6.size).s3
          have HA := hide hA
          have T3 := hide t3
          have T2 := hide t2
          have T5 := hide (t5 HN.out)
          clear t1 t2 t3 t4 t5 t6 hA
          by_cases hf : G.filt E[i] = []
          · have hlen : (G.filt E[i]).length = 0 := by rw [hf]; rfl
            have HF := hide hf
            rw [hlen]
            clear hf hlen
            go_wp2_with (at_delete; refine del_law rfl _ _ rfl G.bM _ _ (sk G.id lock) _ rfl rfl T3.out HA.out ?_; intro wy hmy hby; have HMY := hide hmy; have HBY := hide hby; clear hmy hby)
            go_roundw
            case rel => exact ⟨i + 1, by omega, by rw [done_no hlt HF.out], by go_num, HPL.out.no H.out.ap hlt H.out.stat HIL.out.turn HF.out HBY.out HMY.out⟩
            case measure => simp [intOf]; omega
          · have hpos : 0 < (G.filt E[i]).length := List.length_pos_iff.2 hf
            have hfle : (G.filt E[i]).length ≤ 65536 := Nat.le_trans (filt_le G E[i]) (by rw [HXN.out]; exact hxl)
            have hS := sum_done_le G E i
            have hsm := H.out.sm
            have hS1 : 0 ≤ sumL (G.done E i) ∧ sumL (G.done E i) ≤ 65536 := by unfold sumL; omega
            have HFC := hide (show (G.filt E[i]).length ≤ E[i].xs.length from filt_le G E[i])
            have HF := hide hf
            have hrowr := HIL.out.row (fun q => hf (filt_nil q))
            rw [HFE.out] at hrowr
            have HROWX := hide hrowr
            have hdc : (G.done E i).length < G.cK := by have := HKL.out; have := HKC.out; omega
            have hRl : ((G.done E i).map (·.lock) ++ rk.drop (G.done E i).length).length = G.cK := by have := HKL.out; simp; omega
            have HRL := hide hRl
            clear hf hS hsm hrowr hRl
            have HEND : ∀ wq : World, wq.os = wr.os → wq.tape = wr.tape → wq.output = wr.output → wr.heap.size ≤ wq.heap.size → (∀ b, b < wr.heap.size → b ≠ G.bM → b ≠ G.gK → b ≠ G.bL → wq.heap[b]? = wr.heap[b]?) →
                wq.heap[G.bL]? = some (lobj G E.length (sumL (G.done E i) + (G.filt E[i]).length) pr) → MapIs wq G.bM ((G.done E i).map (kvOf G.id) ++ (sk G.id lock, .slice ea (G.filt E[i]).length ec) :: (E.drop (i + 1)).map (kvOf G.id)) →
                wq.heap[G.gK]? = some (.cells (irow .i32 (((G.done E i).map (·.lock) ++ rk.drop (G.done E i).length).set (G.done E i).length lock)) 21 (0, 0)) → PL G w E rk pr (i + 1) wq := by
              intro wq q0 q1 q2 q3 q4 q5 q6 q7
              refine HPL.out.yes H.out.ap hlt H.out.stat HIL.out.turn HF.out HOK.out HROWX.out HFC.out q0 q1 q2 q3 q4 q5 ?_ (fun _ => by rw [HLK.out]; exact q7) (fun _ => by have := HKL.out; have := HKC.out; omega)
              rw [kept_kv, HLK.out, HEA.out, HEC.out]; exact q6
            have HEND := hide HEND
            have HSL : (sumL (G.done E i) : Int) = sumL (G.done E i) := rfl
            obtain ⟨S, hSe⟩ : ∃ S, sumL (G.done E i) = S := ⟨_, rfl⟩
            obtain ⟨R, hR⟩ : ∃ R, (G.done E i).map (·.lock) ++ rk.drop (G.done E i).length = R := ⟨_, rfl⟩
            obtain ⟨fl, hfl⟩ : ∃ fl, (G.filt E[i]).length = fl := ⟨_, rfl⟩
            obtain ⟨dn, hdn⟩ : ∃ dn, (G.done E i).length = dn := ⟨_, rfl⟩
            have hde : Value.slice (some ⟨G.gK, 0, none⟩) (dn + 1) G.cK = .slice (some ⟨G.gK, 0, none⟩) (G.done E (i + 1)).length G.cK := by
              rw [done_yes hlt HF.out, List.length_append, hdn]; rfl
            have HDE := hide hde
            rw [hSe, hR, hfl, hdn] at HEND
            rw [hSe] at hS1 T2
            rw [hR] at T5 HRL
            rw [hfl] at hpos hfle
            rw [hdn] at hdc hdi
            rw [hfl, hdn]
            clear HSL hSe hR hfl hdn HFE hde HROWX HFC
            have hfz : ((fl : Int) == 0) = false := beq_eq_false_iff_ne.2 (by omega)
            have ap := hide H.out.ap
            go_wp2_with (first
              | (at_mapUpdate; refine upd_law rfl _ _ _ rfl G.bM _ _ (sk G.id lock) _ (.slice ea fl ec) rfl rfl rfl T3.out HA.out ?_; intro wy hmy hby
                 have hKy := hide ((hby.block _ ap.out.mg.symm).trans T5.out)
                 have hLy := hide ((hby.block _ ap.out.lm).trans T2.out)
                 have HMY := hide hmy
                 have HBY := hide hby
                 clear hmy hby)
              | (at_builtin; refine append_room rfl _ _ 31 21 .i32 4 rfl Try.underlying31 Flow.Try.info21 G.gK dn G.cK wy.heap.size R lock rfl rfl ((Below.heap_alloc _ _ _ (obj_lt hKy.out)).trans hKy.out) HRL.out (by rw [cell_of_row _ _ 0 _ 21 _ (heap_alloc_new wy _)]; rfl) hdc ?_; intro wz hz1 hz2
                 have hLz := (hz2.block _ ap.out.lk).trans ((Below.heap_alloc _ _ _ (obj_lt hLy.out)).trans hLy.out)
                 obtain ⟨z0, z1, z2, z3, z4, z5, z6⟩ := lobj_cells hLz
                 have fz := lobj_froz hLz 5
                 have HLZ := hide hLz
                 have HZ1 := hide hz1
                 have HZ2 := hide hz2
                 clear hLz hz1 hz2 z0 z1 z2 z3 z4 z6))
            go_roundw
            case rel =>
              refine ⟨i + 1, by omega, HDE.out, by go_num, HEND.out _ ?_ ?_ ?_ ?_ ?_ (lobj_set5 HLZ.out _) ?_ ?_⟩
              · exact HZ2.out.os.trans HBY.out.os
              · exact HZ2.out.tape.trans HBY.out.tape
              · exact HZ2.out.output.trans HBY.out.output
              · have h1 := HZ2.out.size
                have h2 := HBY.out.size
                simp [World.setCell] at h1 ⊢
                omega
              · intro b hb1 hb2 hb3 hb4
                rw [heap_set_other hb4, HZ2.out.block _ hb3, Below.heap_alloc _ _ _ (by rw [HBY.out.size]; exact hb1), HBY.out.block _ hb2]
              · refine HMY.out.same ?_
                rw [heap_set_other ap.out.lm.symm, HZ2.out.block _ ap.out.mg, Below.heap_alloc _ _ _ HMY.out.lt]
              · rw [heap_set_other ap.out.lk.symm]; exact HZ1.out
            case measure => simp [intOf]; omega
    · obtain rfl : i = E.length := by omega
      obtain ⟨l0, l1, l2, l3, l4, l5, l6⟩ := lobj_cells HPL.out.hL
      have f4 := lobj_froz HPL.out.hL 4
      have f6 := lobj_froz HPL.out.hL 6
      have hfin : ∀ wq, But wr wq G.bL → wq.heap[G.bL]? = some (lobj G (G.done E E.length).length (sumL (G.done E E.length)) (sumL (G.done E E.length))) → PruneTo G w E (.returned (.tuple #[])) wq := fun wq hb hL => ⟨rfl, HPL.out.finish H.out hb hL⟩
      have hL2 := lobj_set6 (lobj_set4 HPL.out.hL (G.done E E.length).length) (sumL (G.done E E.length))
      have hbut : But wr ((wr.setCell ⟨G.bL, 4, none⟩ (.slice G.aK (G.done E E.length).length G.cK)).setCell ⟨G.bL, 6, none⟩ (.int .i64 (sumL (G.done E E.length)))) G.bL :=
        ⟨rfl, rfl, rfl, by simp [World.setCell], fun k hk => by rw [heap_set_other hk, heap_set_other hk]⟩
      have hfin := hide (hfin _ hbut hL2)
      clear hL2 hbut
      generalize sumL (G.done E E.length) = S at *
      generalize (G.done E E.length).length = dn at *
      go_wp2_with fail
      go_end0
      exact hfin.out
end Go.Proofs.Qxb6616202a.Prune
