import Derived.Test.Qxb6616202aPNew
namespace Go.Proofs.Qxb6616202a.Prune
open Go.RowKit Go.Proofs.Qxb6616202a.Kit Go.Proofs.Qxb6616202a.Flow
set_option linter.unusedVariables false
set_option linter.unusedSimpArgs false
theorem Try.info3 : (Try.prog.info? 3).map (fun i => (i.zero, i.size, i.bytes)) = some (some (.int .i64 0), 1, 8) := by kernel_rfl

set_option maxRecDepth 100000 in
set_option maxHeartbeats 4000000 in
theorem new_any (nk nl nr : List Int) (id : Int) (lk : List Int) (Ls : List (List Int)) (il sl : List Int) (st pr : Int) (a0 a1 a2 a4 a5 a6 a7 : Option Addr) (c0 c1 c2 c4 c5 c6 c7 : Nat) (w : World)
    (h0 : Rd .i32 w a0 nk) (h1 : Rd .i32 w a1 nl) (h2 : Rd .i32 w a2 nr) (h4 : Rd .i32 w a4 lk) (h5 : RdL w a5 Ls) (h6 : Rd .i64 w a6 il) (h7 : Rd .i32 w a7 sl)
    (m0 : nk.length ≤ 8192) (e1 : nl.length = nk.length) (e2 : nr.length = nk.length) (m4 : lk.length ≤ 4096) (e5 : Ls.length = lk.length) (m6 : il.length ≤ 8192) (e7 : sl.length = il.length)
    (hid : -2147483648 ≤ id ∧ id ≤ 2147483647) (hlk : ∀ x ∈ lk, -2147483648 ≤ x ∧ x ≤ 2147483647) (hnd : lk.Nodup) (hup : ∀ i, i < Ls.length → Rising (Ls.getD i [])) (hsum : offs Ls Ls.length ≤ 65536) :
    Calls Try.prog 19 #[.slice a0 nk.length c0, .slice a1 nk.length c1, .slice a2 nk.length c2, .int .i32 id, .slice a4 lk.length c4, .slice a5 lk.length c5, .slice a6 il.length c6, .slice a7 il.length c7, .int .i64 st, .int .i64 pr] w
      (NewTo w nk nl nr id lk Ls il sl st pr) := by
  have H0 := hide h0
  have H1 := hide h1
  have H2 := hide h2
  have H4 := hide h4
  have H5 := hide h5
  have H6 := hide h6
  have H7 := hide h7
  have HLK := hide hlk
  have HND := hide hnd
  have HUP := hide hup
  have HSUM := hide hsum
  have E1 := hide e1
  have E2 := hide e2
  have E5 := hide e5
  have E7 := hide e7
  obtain ⟨i1, i2⟩ := hid
  clear h0 h1 h2 h4 h5 h6 h7 hlk hnd hup hsum e1 e2 e5 e7
  have mk1 := fun w => makeN nk.length (by omega) w
  have mk2 := fun w => makeM lk.length (by omega) w
  have mk3 := fun w => makeI il.length (by omega) w
  go_enter Try.func19, Try.ntmps19
  go_upto_region 2 with fail
  clear mk1
  go_wp2_with fail
  go_loopw [23, 35] (fun _ iv wr => ∃ i : Nat, i ≤ nk.length ∧ iv = .int .i64 i ∧ N1 w nk nl nr i wr) (fun _ iv _ => nk.length - (intOf iv).toNat)
  case atStart =>
    refine ⟨0, Nat.zero_le _, rfl, ?_, ?_, ?_, ?_⟩
    · exact ((Below.refl _ _).alloc (Nat.le_refl _) _).alloc (by simp) _
    · simp
    · refine node_start _ _ _ _ _ _ ?_
      rw [Below.heap_alloc _ _ _ (by simp)]; exact heap_alloc_new w _
    · have : w.heap.size + 1 = (w.alloc (nmade nk.length)).heap.size := by simp
      rw [this, cell_of_row _ _ _ _ _ _ (heap_alloc_new _ _)]; rfl
  case round =>
    obtain ⟨i, hi, rfl, hN⟩ := hrel
    by_cases hlt : i < nk.length
    · clear mk2 mk3
      obtain ⟨b0, o0, rfl, q0⟩ := (H0.out.below hN.bel) i hlt
      obtain ⟨b1, o1, rfl, q1⟩ := (H1.out.below hN.bel) i (by rw [E1.out]; exact hlt)
      obtain ⟨b2, o2, rfl, q2⟩ := (H2.out.below hN.bel) i (by rw [E2.out]; exact hlt)
      have qh := hN.hd
      have cs := fun p hp => (hN.vals p hp)
      have v0 := cs (i * 5) (by omega)
      have v1 := cs (i * 5 + 1) (by omega)
      have v2 := cs (i * 5 + 2) (by omega)
      have v3 := cs (i * 5 + 3) (by omega)
      have v4 := cs (i * 5 + 4) (by omega)
      obtain ⟨v0, f0⟩ := v0
      obtain ⟨v1, f1⟩ := v1
      obtain ⟨v2, f2⟩ := v2
      obtain ⟨v3, f3⟩ := v3
      obtain ⟨v4, f4⟩ := v4
      generalize nodeF nk nl nr i (i * 5) = z0 at *
      generalize nodeF nk nl nr i (i * 5 + 1) = z1 at *
      generalize nodeF nk nl nr i (i * 5 + 2) = z2 at *
      generalize nodeF nk nl nr i (i * 5 + 3) = z3 at *
      generalize nodeF nk nl nr i (i * 5 + 4) = z4 at *
      have NS := hide hN.step
      obtain ⟨x0, hx0⟩ : ∃ x, nk.getD i 0 = x := ⟨_, rfl⟩
      obtain ⟨x1, hx1⟩ : ∃ x, nl.getD i 0 = x := ⟨_, rfl⟩
      obtain ⟨x2, hx2⟩ : ∃ x, nr.getD i 0 = x := ⟨_, rfl⟩
      rw [hx0, hx1, hx2] at NS
      rw [hx0] at q0
      rw [hx1] at q1
      rw [hx2] at q2
      have HN := hide hN
      clear hx0 hx1 hx2 hN cs
      go_upto_region 5 with fail
      go_region
      all_goals (go_wp2_with fail)
      all_goals go_roundw
      case rel =>
        exact ⟨i + 1, by omega, by go_num, NS.out⟩
      case measure => simp [intOf]; omega
    · obtain rfl : i = nk.length := by omega
      have HN := hide hN
      have hsz := hN.size
      clear hN
      go_upto_region 8 with fail
      clear mk2
      have N2H := hide (HN.out.finish (.map none) (.map none) (.slice none 0 0))
      generalize ((wr.alloc (Obj.map #[] 0)).alloc (Obj.cells #[Value.pointer (some { block := w.heap.size + 1, off := 0 }), Value.map none, Value.map none, Value.map (some (w.heap.size + 2)), Value.slice none 0 0] 102)) = w7 at *
      clear HN hsz
      have s3 := N2H.out.s3
      have hs7 := N2H.out.size
      generalize hbS : w.heap.size + 2 + 1 = bS at *
      generalize hbM : w.heap.size + 2 = bM at *
      go_wp2_with fail
      go_loopw [25, 67] (fun _ iv wx => ∃ (i : Nat) (E : List Ent), i ≤ lk.length ∧ iv = .int .i64 i ∧ N3 w7 bM id lk Ls E i wx) (fun _ iv _ => lk.length - (intOf iv).toNat)
      case atStart =>
        refine ⟨0, [], Nat.zero_le _, rfl, Only.refl _ _, rfl, fun j h => by simp at h, ⟨#[], 0, ?_, by simp⟩, fun e h => by simp at h, fun e h => by simp at h, List.Pairwise.nil⟩
        rw [← hbM]; exact N2H.out.m
      case round =>
        obtain ⟨i, E, hi, rfl, hN⟩ := hrel
        have belw : Below w.heap.size w wr := Only.below N2H.out.bel hN.only (by omega) (by omega)
        by_cases hlt : i < lk.length
        · clear mk3
          obtain ⟨b4, o4, rfl, q4w⟩ := H4.out i hlt
          obtain ⟨b5, o5, ai, ci, rfl, q5w, r5w⟩ := H5.out i (by rw [E5.out]; exact hlt)
          have hb4 := cell_lt q4w
          have hb5 := cell_lt q5w
          have q4 := Below.seen belw hb4 q4w
          have q5 := Below.seen belw hb5 q5w
          have r5 := r5w.below belw
          clear q4w q5w r5w
          have q3 := hN.only.cell (show bS ≠ bM by omega) s3
          obtain ⟨x1, x2⟩ := HLK.out (lk.getD i 0) (getD_mem lk i hlt)
          have miss := hide (N3.miss hN HLK.out HND.out hlt)
          have HU := hide (HUP.out i (by rw [E5.out]; exact hlt))
          have hle : (Ls.getD i []).length ≤ 65536 := by
            have h1 := offs_succ Ls i
            have h2 := offs_mono Ls (show i + 1 ≤ Ls.length by rw [E5.out]; omega)
            have := HSUM.out
            omega
          obtain ⟨x, hx⟩ : ∃ x, lk.getD i 0 = x := ⟨_, rfl⟩
          obtain ⟨xs, hxs⟩ : ∃ x, Ls.getD i [] = x := ⟨_, rfl⟩
          rw [hx] at q4 x1 x2 miss
          rw [hxs] at q5 r5 hle
          have HX := hide hx
          have HXS := hide hxs
          have HN := hide hN
          clear hx hxs hN HU
          by_cases hne : xs = []
          · subst hne
            simp only [List.length_nil] at q5
            obtain ⟨i0, hi0, _⟩ := info_parts Try.info3
            have hrun := append_none 39 3 Try.underlying39 i0 hi0 wr.drew 39 ai ci
            have HR := hide hrun
            obtain ⟨w2, hupd, hm2, hb2⟩ := upd_miss (w := wr.drew) (HN.out.hM.same rfl) miss.out (.slice none 0 0)
            have S0 : Hid (wr.drew.cell? ⟨bS, 3, none⟩ = some (.map (some bM)) ∧ wr.drew.cell? ⟨b4, o4 + i, none⟩ = some (.int .i32 x) ∧ wr.drew.cell? ⟨b5, o5 + i, none⟩ = some (.slice ai 0 ci)) := ⟨q3, q4, q5⟩
            have S2 : Hid (w2.cell? ⟨bS, 3, none⟩ = some (.map (some bM)) ∧ w2.cell? ⟨b4, o4 + i, none⟩ = some (.int .i32 x) ∧ w2.cell? ⟨b5, o5 + i, none⟩ = some (.slice ai 0 ci)) := ⟨but_cell hb2 (show bS ≠ bM by omega) S0.out.1, but_cell hb2 (show b4 ≠ bM by omega) S0.out.2.1, but_cell hb2 (show b5 ≠ bM by omega) S0.out.2.2⟩
            have HB2 := hide hb2
            have HM2 := hide hm2
            clear hb2 hm2 r5 hrun q3 q4 q5 hi0
            go_upto_region 11 with fail
            go_region_held_law (fun w' => w'.cell? ⟨bS, 3, none⟩ = some (.map (some bM)) ∧ w'.cell? ⟨b4, o4 + i, none⟩ = some (.int .i32 x) ∧ w'.cell? ⟨b5, o5 + i, none⟩ = some (.slice ai 0 ci)) (first | with_reducible exact S0.out | with_reducible exact S2.out)
              (first
                | (refine step_append_run rfl (.const (.slice none 0 0)) (.tmp 83) 39 rfl (.slice none 0 0) (.slice ai 0 ci) rfl rfl (.slice none 0 0) wr.drew HR.out ?_)
                | (go_at_call 30; refine (key_any id x _ i1 i2 x1 x2).mono ?_; rintro e w' ⟨rfl, rfl⟩))
            all_goals (go_wp2_with fail)
            all_goals go_roundw
            case rel =>
              refine ⟨i + 1, E ++ [⟨x, none, 0, 0, [], []⟩], by omega, by go_num, ?_⟩
              exact HN.out.step ⟨x, none, 0, 0, [], []⟩ HX.out.symm HXS.out.symm ((Below.refl _ _).drew) HB2.out HM2.out (.inl ⟨rfl, rfl, rfl⟩) (fun h => absurd rfl h) (by omega)
            case measure => simp [intOf]; omega
          · obtain ⟨cap, row, hrun, hr1, hr2, hr3⟩ := append_fresh .i64 39 3 8 Try.underlying39 Try.info3 (by omega) wr.drew 39 ai xs ci hne (by omega) r5
            have W1 : Below wr.heap.size wr ((wr.alloc (.cells (irow .i64 row) 3)).drew.drew) := (((Below.refl _ _).alloc (Nat.le_refl _) _).drew).drew
            have HR : Hid ((Builtin.append_ #[39, 39] 39 #[.slice none 0 0, .slice ai xs.length ci]).run Try.prog wr.drew = .ok (.slice (some ⟨wr.heap.size, 0, none⟩) xs.length cap) ((wr.alloc (.cells (irow .i64 row) 3)).drew.drew)) := hrun
            obtain ⟨w2, hupd, hm2, hb2⟩ := upd_miss (w := (wr.alloc (.cells (irow .i64 row) 3)).drew.drew) (HN.out.hM.same (W1.block _ HN.out.hM.lt)) miss.out (.slice (some ⟨wr.heap.size, 0, none⟩) xs.length cap)
            have S0 : Hid (wr.drew.cell? ⟨bS, 3, none⟩ = some (.map (some bM)) ∧ wr.drew.cell? ⟨b4, o4 + i, none⟩ = some (.int .i32 x) ∧ wr.drew.cell? ⟨b5, o5 + i, none⟩ = some (.slice ai xs.length ci)) := ⟨q3, q4, q5⟩
            have S1 : Hid (((wr.alloc (.cells (irow .i64 row) 3)).drew.drew).cell? ⟨bS, 3, none⟩ = some (.map (some bM)) ∧ ((wr.alloc (.cells (irow .i64 row) 3)).drew.drew).cell? ⟨b4, o4 + i, none⟩ = some (.int .i32 x) ∧ ((wr.alloc (.cells (irow .i64 row) 3)).drew.drew).cell? ⟨b5, o5 + i, none⟩ = some (.slice ai xs.length ci)) := ⟨al_cell q3 (.cells (irow .i64 row) 3), al_cell q4 (.cells (irow .i64 row) 3), al_cell q5 (.cells (irow .i64 row) 3)⟩
            have S2 : Hid (w2.cell? ⟨bS, 3, none⟩ = some (.map (some bM)) ∧ w2.cell? ⟨b4, o4 + i, none⟩ = some (.int .i32 x) ∧ w2.cell? ⟨b5, o5 + i, none⟩ = some (.slice ai xs.length ci)) := ⟨but_cell hb2 (show bS ≠ bM by omega) S1.out.1, but_cell hb2 (show b4 ≠ bM by omega) S1.out.2.1, but_cell hb2 (show b5 ≠ bM by omega) S1.out.2.2⟩
            have HB2 := hide hb2
            have HM2 := hide hm2
            have R5 := hide r5
            have HW1 := hide W1
            have HNE := hide hne
            have HR1 := hide hr1
            have HR2 := hide hr2
            have HR3 := hide hr3
            clear hb2 hm2 r5 W1 hrun hne hr1 hr2 hr3 q3 q4 q5
            go_upto_region 11 with fail
            go_region_held_law (fun w' => w'.cell? ⟨bS, 3, none⟩ = some (.map (some bM)) ∧ w'.cell? ⟨b4, o4 + i, none⟩ = some (.int .i32 x) ∧ w'.cell? ⟨b5, o5 + i, none⟩ = some (.slice ai xs.length ci)) (first | with_reducible exact S0.out | with_reducible exact S1.out | with_reducible exact S2.out)
              (first
                | (refine step_append_run rfl (.const (.slice none 0 0)) (.tmp 83) 39 rfl (.slice none 0 0) (.slice ai xs.length ci) rfl rfl (.slice (some ⟨wr.heap.size, 0, none⟩) xs.length cap) ((wr.alloc (.cells (irow .i64 row) 3)).drew.drew) HR.out ?_)
                | (go_at_call 30; refine (key_any id x _ i1 i2 x1 x2).mono ?_; rintro e w' ⟨rfl, rfl⟩))
            all_goals (go_wp2_with fail)
            all_goals go_roundw
            case rel =>
              refine ⟨i + 1, E ++ [⟨x, some ⟨wr.heap.size, 0, none⟩, wr.heap.size, cap, xs, row⟩], by omega, by go_num, ?_⟩
              refine HN.out.step ⟨x, some ⟨wr.heap.size, 0, none⟩, wr.heap.size, cap, xs, row⟩ HX.out.symm HXS.out.symm HW1.out HB2.out HM2.out (.inr ⟨HNE.out, rfl, ?_, HR1.out, HR2.out, HR3.out⟩) (fun _ => rfl) (by omega)
              show w2.heap[wr.heap.size]? = _
              have hge := HN.out.only.size
              rw [HB2.out.block _ (by omega)]
              exact heap_alloc_new wr _
            case measure => simp [intOf]; omega
        · obtain rfl : i = lk.length := by omega
          have HN3 := hide hN
          have R4 := hide (H4.out.below belw)
          have BELW := hide belw
          have hszM : bM < w7.heap.size := by omega
          have hszw : w7.heap.size ≤ wr.heap.size := hN.only.size
          clear hN belw s3
          generalize wr = w3 at *
          go_upto_region 13 with fail
          go_cut [26] from 28 (fun v wx => Cut4 w3 id lk il.length st pr v wx)
          case first =>
            by_cases hne : lk = []
            · subst hne
              simp only [List.length_nil]
              obtain ⟨i0, hi0, _⟩ := info_parts Try.info21
              have HR1 := hide (append_none 31 21 Try.underlying31 i0 hi0 w3.drew 31 a4 c4)
              have HR2 := hide (append_none 31 21 Try.underlying31 i0 hi0 (w3.alloc (imade il.length)).drew 31 a4 c4)
              have X0 := hide (N4.no_locks (w3 := w3) (id := id) (lk := []) (m := il.length) (st := st) (pr := pr) rfl)
              clear hi0
              go_region_held_law (fun _ => True) (trivial) (first
                | (refine step_append_run rfl (.const (.slice none 0 0)) (.tmp 92) 31 rfl (.slice none 0 0) (.slice a4 0 c4) rfl rfl (.slice none 0 0) w3.drew HR1.out ?_)
                | (refine step_append_run rfl (.const (.slice none 0 0)) (.tmp 92) 31 rfl (.slice none 0 0) (.slice a4 0 c4) rfl rfl (.slice none 0 0) (w3.alloc (imade il.length)).drew HR2.out ?_))
              all_goals (go_wp2_with fail)
              all_goals go_meet
              all_goals exact ⟨_, _, _, _, _, _, rfl, X0.out.drew⟩
            · have hl : lk.length ≤ 1000000 := by omega
              obtain ⟨cap, row, hrun, hr1, hr2, hr3⟩ := append_fresh .i32 31 21 4 Try.underlying31 Try.info21 (by omega) w3.drew 31 a4 lk c4 hne hl R4.out
              obtain ⟨capB, rowB, hrunB, hb1, hb2, hb3⟩ := append_fresh .i32 31 21 4 Try.underlying31 Try.info21 (by omega) (w3.alloc (imade il.length)).drew 31 a4 lk c4 hne hl (R4.out.below ((Below.refl _ _).alloc (Nat.le_refl _) _).drew)
              have HR1 : Hid ((Builtin.append_ #[31, 31] 31 #[.slice none 0 0, .slice a4 lk.length c4]).run Try.prog w3.drew = .ok (.slice (some ⟨w3.heap.size, 0, none⟩) lk.length cap) ((w3.alloc (.cells (irow .i32 row) 21)).drew.drew)) := hrun
              have HR2 : Hid ((Builtin.append_ #[31, 31] 31 #[.slice none 0 0, .slice a4 lk.length c4]).run Try.prog (w3.alloc (imade il.length)).drew = .ok (.slice (some ⟨w3.heap.size + 1, 0, none⟩) lk.length capB) (((w3.alloc (imade il.length)).alloc (.cells (irow .i32 rowB) 21)).drew.drew)) := by
                have e : (w3.alloc (imade il.length)).drew.heap.size = w3.heap.size + 1 := by show (w3.alloc (imade il.length)).heap.size = _; simp
                rw [e] at hrunB
                exact hrunB
              have X1 := hide (N4.append_first (w3 := w3) (id := id) (m := il.length) (st := st) (pr := pr) hr1 hr2 hr3)
              have X2 := hide (N4.make_first (w3 := w3) (id := id) (m := il.length) (st := st) (pr := pr) hb1 hb2 hb3)
              clear hrun hr1 hr2 hr3 hrunB hb1 hb2 hb3
              go_region_held_law (fun _ => True) (trivial) (first
                | (refine step_append_run rfl (.const (.slice none 0 0)) (.tmp 92) 31 rfl (.slice none 0 0) (.slice a4 lk.length c4) rfl rfl (.slice (some ⟨w3.heap.size, 0, none⟩) lk.length cap) ((w3.alloc (.cells (irow .i32 row) 21)).drew.drew) HR1.out ?_)
                | (refine step_append_run rfl (.const (.slice none 0 0)) (.tmp 92) 31 rfl (.slice none 0 0) (.slice a4 lk.length c4) rfl rfl (.slice (some ⟨w3.heap.size + 1, 0, none⟩) lk.length capB) (((w3.alloc (imade il.length)).alloc (.cells (irow .i32 rowB) 21)).drew.drew) HR2.out ?_))
              all_goals (go_wp2_with fail)
              all_goals go_meet
              all_goals (first | exact ⟨_, _, _, _, _, _, rfl, X2.out.drew.drew⟩ | exact ⟨_, _, _, _, _, _, rfl, X1.out.drew.drew⟩)
          case rest =>
            obtain ⟨bI, bL, gK, cK, aK, rk, rfl, hN4⟩ := hcut
            have l1 : wc.cell? ⟨bL, 1, none⟩ = some (.slice (some ⟨bI, 0, none⟩) il.length il.length) := by rw [cell_of_row _ _ _ _ _ _ hN4.hL]; rfl
            have hLI : bL ≠ bI := fun q => hN4.il q.symm
            have hwI : w.heap.size ≤ bI := by have := hN4.oI; omega
            have belc := hide (BELW.out.trans (hN4.bel.mono (by omega)))
            have N5H := hide (show N5 wc bI il sl 0 0 wc from ⟨Only.refl _ _, item_start _ _ _ _ _ hN4.hI⟩)
            have HN4 := hide hN4
            clear hN4 R4 mk3
            go_wp2_with fail
            go_loopw [27, 100] (fun _ iv wx => ∃ i : Nat, i ≤ il.length ∧ iv = .int .i64 i ∧ N5 wc bI il sl i 0 wx) (fun _ iv _ => il.length - (intOf iv).toNat)
            case atStart => exact ⟨0, Nat.zero_le _, rfl, N5H.out⟩
            case round =>
              obtain ⟨i, hi, rfl, hN⟩ := hrel
              clear N5H
              by_cases hlt : i < il.length
              · obtain ⟨b6, o6, rfl, q6w⟩ := H6.out i hlt
                obtain ⟨b7, o7, rfl, q7w⟩ := H7.out i (by rw [E7.out]; exact hlt)
                have hb6 := cell_lt q6w
                have hb7 := cell_lt q7w
                have q6c := Below.seen belc.out hb6 q6w
                have q7c := Below.seen belc.out hb7 q7w
                have n1 := hN.set0
                have n2 := n1.set2
                have N3' := hide n2.set4
                have q6 := hN.only.cell (show b6 ≠ bI by omega) q6c
                have lr := hN.only.cell hLI l1
                obtain ⟨z0, v0, f0⟩ := hN.at (i * 14) (by omega)
                obtain ⟨x, hx⟩ : ∃ x, il.getD i 0 = x := ⟨_, rfl⟩
                obtain ⟨y, hy⟩ : ∃ x, sl.getD i 0 = x := ⟨_, rfl⟩
                rw [hx] at n1 n2 N3' q6 q6c q6w
                rw [hy] at n2 N3' q7c q7w
                have NA := hide n1
                have NB := hide n2
                have L1 := hide l1
                have Q7 := hide q7c
                clear hx hy n1 n2 q6c q6w q7w q7c hN l1
                go_upto_region 17 with fail
                go_region
                go_upto_region 18 with fail
                generalize (wr.setCell ⟨bI, i * 14, none⟩ (.int .i64 x)).drew = W1 at *
                clear q6 lr v0 f0 z0
                have q7 := NA.out.only.cell (show b7 ≠ bI by omega) Q7.out
                have lr := NA.out.only.cell hLI L1.out
                obtain ⟨z0, v0, f0⟩ := NA.out.at (i * 14 + 2) (by omega)
                go_region
                go_upto_region 19 with fail
                generalize (W1.setCell ⟨bI, i * 14 + 2, none⟩ (.int .i32 y)).drew = W2 at *
                clear q7 lr v0 f0 z0
                have lr := NB.out.only.cell hLI L1.out
                obtain ⟨z0, v0, f0⟩ := NB.out.at (i * 14 + 4) (by omega)
                go_wp2_with fail
                go_roundw
                case rel => exact ⟨i + 1, by omega, by go_num, N3'.out⟩
                case measure => simp [intOf]; omega
              · obtain rfl : i = il.length := by omega
                have HN5 := hide hN
                clear hN l1
                go_wp2_with fail
                go_ret2
                have r := new_state N2H.out (by rw [hbM]; exact HN3.out) HN4.out HN5.out.only HN5.out.vals ⟨i1, i2⟩ HLK.out HND.out E5.out HUP.out HSUM.out m4
                rw [show w.heap.size + 3 = bS by omega] at r
                exact r
end Go.Proofs.Qxb6616202a.Prune
