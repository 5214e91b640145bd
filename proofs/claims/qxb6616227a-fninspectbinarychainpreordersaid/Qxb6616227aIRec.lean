import Derived.Test.Qxb6616227aIChain
import Derived.Test.Qxb6616227aISame
namespace Go.Proofs.Qxb6616227a.Ins
open Go.RowKit
set_option linter.unusedVariables false
set_option linter.unusedSimpArgs false

theorem step_below {bo bs base B0 : Nat} {skip : Int} {cur qs : List Po} {v v' : Value} {Wc w w' : World} (h : Out bo bs base skip cur v w) (hb : Below B0 Wc w) (oB : B0 ≤ bo) (bB : B0 ≤ base) (s : Step bo bs base skip qs v w v' w') : Below B0 Wc w' := by
  have h1 := h.sz
  exact hb.trans ⟨s.kept.os, s.kept.tape, s.kept.output, s.kept.size, fun k hk => s.kept.block k (by omega) (by omega) (far_own h.own (.inl (by omega)))⟩
set_option maxRecDepth 100000 in
set_option maxHeartbeats 4000000 in
theorem insp_bin (leaf : Po) (ks : List Lk) (L : Nat) (N Y : Nat → Nat) (n : Nat) (Wc : World) (hC : Chain Wc leaf ks L N Y (n + 1)) (hn2 : n + 1 ≤ 32768) (skip : Int) (bo bs base : Nat) (v : Value) (w : World)
    (hO : Out bo bs base skip [] v w) (hb : Below Wc.heap.size Wc w) (oB : Wc.heap.size ≤ bo) (bB : Wc.heap.size ≤ base) :
    Calls Try.prog 12 #[.iface 28 (.pointer (some ⟨N n, 0, none⟩)), .func (.func 13) #[] #[.pointer (some ⟨bo, 0, none⟩), .pointer (some ⟨bs, 0, none⟩)]] w (CTo Wc.heap.size bo bs base skip Wc (model leaf ks skip (n + 1))) := by
  have hNn := hC.node n (by omega)
  have HCB := hide (clo_bin w skip (N n) bo bs base [] (ks.getD n lk0).o v (hNn.hp.below hb) (Nat.lt_of_lt_of_le hNn.hp.lt bB) hO (by simp))
  have t1 := no37 ⟨N n, 0, none⟩
  have t2 := no50 ⟨N n, 0, none⟩
  have t3 := no51 ⟨N n, 0, none⟩
  have t4 := no52 ⟨N n, 0, none⟩
  have t5 := no53 ⟨N n, 0, none⟩
  have t6 := is28 46 ⟨N n, 0, none⟩
  obtain ⟨p, hp⟩ : ∃ p, (ks.getD n lk0).o = p := ⟨_, rfl⟩
  rw [hp] at HCB
  have hmod := model_eq leaf ks skip (n + 1)
  have hdn : down leaf ks skip (n + 1) = p :: if p.1 = skip then [] else down leaf ks skip n := by rw [← hp]; rfl
  have hsp : stop ks skip (n + 1) = if p.1 = skip then n + 1 else stop ks skip n := by rw [← hp]; rfl
  have HO := hide hO
  have HB := hide hb
  have HC := hide hC
  have HMOD := hide hmod
  have HDN := hide hdn
  have HSP := hide hsp
  clear hp hdn hsp hmod hNn hO hb hC
  by_cases hsk : p.1 = skip
  · have HSK := hide hsk
    have gd : decide (p.1 ≠ skip) = false := by simp [hsk]
    have HC2 : Hid (Calls Try.prog 13 #[.iface 28 (.pointer (some ⟨N n, 0, none⟩)), .pointer (some ⟨bo, 0, none⟩), .pointer (some ⟨bs, 0, none⟩)] w fun e w' => ∃ v', e = .returned (.bool false) ∧ Step bo bs base skip ([] ++ [p]) v w v' w') := by
      have := HCB.out
      unfold FTo at this
      rw [gd] at this
      exact this
    clear HCB gd hsk
    go_enter Try.func12, Try.ntmps12
    go_wp2_with (first | (go_at_call 13; refine HC2.out.mono ?_; rintro e w' ⟨v', rfl, hst⟩; have ST := hide hst; clear hst))
    go_end0
    refine ⟨rfl, v', ?_, step_below HO.out HB.out oB bB ST.out⟩
    rw [HMOD.out, HDN.out, HSP.out, if_pos HSK.out, if_pos HSK.out, ups_self]
    exact ST.out.out
  · have HSK := hide hsk
    have gd : decide (p.1 ≠ skip) = true := by simp [hsk]
    have HC2 : Hid (Calls Try.prog 13 #[.iface 28 (.pointer (some ⟨N n, 0, none⟩)), .pointer (some ⟨bo, 0, none⟩), .pointer (some ⟨bs, 0, none⟩)] w fun e w' => ∃ v', e = .returned (.bool true) ∧ Step bo bs base skip ([] ++ [p]) v w v' w') := by
      have := HCB.out
      unfold FTo at this
      rw [gd] at this
      exact this
    clear HCB gd hsk
    go_enter Try.func12, Try.ntmps12
    go_wp2_with (first
      | (go_at_call 13; refine HC2.out.mono ?_; rintro e w' ⟨v', rfl, hst⟩; have ST := hide hst; have HCH := hide (chain_any leaf ks L N Y (n + 1) Wc HC.out (by omega) hn2 skip bo bs base [p] v' w' hst.out (step_below HO.out HB.out oB bB hst) oB bB (by simp)); clear hst)
      | (go_at_call 14; refine HCH.out.mono ?_; rintro e w2 ⟨rfl, v2, ho2, hb2⟩; have O2 := hide ho2; have B2 := hide hb2; clear ho2 hb2))
    go_end0
    refine ⟨rfl, v2, ?_, B2.out⟩
    have := O2.out
    simp only [Nat.add_sub_cancel] at this
    rw [HMOD.out, HDN.out, HSP.out, if_neg HSK.out, if_neg HSK.out]
    exact this

/-- What zzRecord hands back. -/
def RecTo (w : World) (qs : List Po) (e : Ending) (w' : World) : Prop := ∃ v, e = .returned v ∧ w'.ownsRow (w.heap.size + 2) 25 2 v qs.length (pv qs) ∧ Below w.heap.size w w' ∧ w.heap.size + 2 ≤ w'.heap.size
theorem out_start (w : World) (skip : Int) : Out (w.heap.size + 1) w.heap.size (w.heap.size + 2) skip [] (.slice none 0 0) ((w.alloc (.cells #[.int .i64 skip] 3)).alloc (.cells #[.slice none 0 0] 26)) := by
  refine ⟨new2 _ _ _, ?_, World.ownsRow_nil _ _ _ _, by omega, by omega, by omega, by simp⟩
  refine al_cell ?_ _
  rw [cell_of_row _ _ _ _ _ _ (heap_alloc_new w _)]; rfl
set_option maxHeartbeats 2000000 in
theorem rec_bin (leaf : Po) (ks : List Lk) (L : Nat) (N Y : Nat → Nat) (n : Nat) (w : World) (hC : Chain w leaf ks L N Y (n + 1)) (hn2 : n + 1 ≤ 32768) (skip : Int) :
    Calls Try.prog 11 #[.iface 28 (.pointer (some ⟨N n, 0, none⟩)), .int .i64 skip] w (RecTo w (model leaf ks skip (n + 1))) := by
  have HIN := hide (insp_bin leaf ks L N Y n w hC hn2 skip (w.heap.size + 1) w.heap.size (w.heap.size + 2) _ _ (out_start w skip) (((Below.refl _ _).alloc (Nat.le_refl _) _).alloc (by simp) _) (by omega) (by omega))
  clear hC
  go_enter Try.func11, Try.ntmps11
  go_wp2_with fail
  refine HIN.out.mono ?_
  rintro e w' ⟨rfl, v, ho, hb⟩
  have hc : w'.cell? ⟨w.heap.size + 1, 0, none⟩ = some v := by rw [cell_of_row _ _ _ _ _ _ ho.ho]; rfl
  obtain ⟨aN, cN, hve, hpl, _⟩ := rdp_of ho.own
  have HV := hide hve
  rw [hve] at hc
  have O2 := hide ho
  have B2 := hide hb
  clear ho hb hve hpl
  go_wp2_with fail
  go_ret
  refine ⟨_, rfl, ?_, B2.out, O2.out.sz⟩
  have := O2.out.own
  rw [HV.out] at this
  exact this
set_option maxHeartbeats 2000000 in
theorem rec_ident (leaf : Po) (L : Nat) (w : World) (hat : At w L leaf) (skip : Int) : Calls Try.prog 11 #[.iface 37 (.pointer (some ⟨L, 0, none⟩)), .int .i64 skip] w (RecTo w [leaf]) := by
  have HIN := hide (insp_ident ((w.alloc (.cells #[.int .i64 skip] 3)).alloc (.cells #[.slice none 0 0] 26)) skip L (w.heap.size + 1) w.heap.size (w.heap.size + 2) [] leaf _ (hat.below (((Below.refl _ _).alloc (Nat.le_refl _) _).alloc (by simp) _)) (by have := hat.lt; omega) (out_start w skip) (by simp))
  have B0 := hide (show Below w.heap.size w ((w.alloc (.cells #[.int .i64 skip] 3)).alloc (.cells #[.slice none 0 0] 26)) from ((Below.refl _ _).alloc (Nat.le_refl _) _).alloc (by simp) _)
  clear hat
  go_enter Try.func11, Try.ntmps11
  go_wp2_with fail
  refine HIN.out.mono ?_
  rintro e w' ⟨rfl, v, hst⟩
  have ho := hst.out
  have hc : w'.cell? ⟨w.heap.size + 1, 0, none⟩ = some v := by rw [cell_of_row _ _ _ _ _ _ ho.ho]; rfl
  obtain ⟨aN, cN, hve, hpl, _⟩ := rdp_of ho.own
  have HV := hide hve
  rw [hve] at hc
  have O2 := hide ho
  have B2 := hide (step_below (out_start w skip) B0.out (by omega) (by omega) hst)
  clear ho hst hve hpl
  go_wp2_with fail
  go_ret
  refine ⟨_, rfl, ?_, B2.out, O2.out.sz⟩
  have := O2.out.own
  rw [HV.out] at this
  exact this
set_option maxHeartbeats 2000000 in
/-- ZZInspectBinary. -/
theorem zbin (leaf : Po) (ks : List Lk) (L : Nat) (N Y : Nat → Nat) (n : Nat) (w : World) (hC : Chain w leaf ks L N Y (n + 1)) (hn2 : n + 1 ≤ 32768) (skip : Int) :
    Calls Try.prog 8 #[.pointer (some ⟨N n, 0, none⟩), .int .i64 skip] w (RecTo w (model leaf ks skip (n + 1))) := by
  have HIN := hide (rec_bin leaf ks L N Y n w hC hn2 skip)
  clear hC
  go_enter Try.func8, Try.ntmps8
  go_wp2_with fail
  refine HIN.out.mono ?_
  rintro e w' ⟨v, rfl, h1, h2, h3⟩
  obtain ⟨aN, cN, hve, hpl, _⟩ := rdp_of h1
  subst hve
  have H1 := hide h1
  have H2 := hide h2
  have H3 := hide h3
  clear h1 h2 h3 hpl
  go_wp2_with fail
  go_ret
  exact ⟨_, rfl, H1.out, H2.out, H3.out⟩
/-- ZZInspectIdent: the name's node and its box come first. -/
def ZTo (w : World) (qs : List Po) (e : Ending) (w' : World) : Prop := ∃ v base, e = .returned v ∧ w.heap.size ≤ base ∧ w'.ownsRow base 25 2 v qs.length (pv qs) ∧ Below w.heap.size w w' ∧ base ≤ w'.heap.size
set_option maxHeartbeats 2000000 in
theorem zident (leaf : Po) (w : World) (skip : Int) : Calls Try.prog 5 #[.agg #[.int .i64 leaf.1, .int .i64 leaf.2], .int .i64 skip] w (ZTo w [leaf]) := by
  have hn := new2 w (.cells #[.int .i64 leaf.1, .int .i64 leaf.2] 25) (.cells #[.int .i64 leaf.1, .int .i64 leaf.2, .string { data := #[] }] 39)
  have HIN := hide (rec_ident leaf (w.heap.size + 1) ((w.alloc (.cells #[.int .i64 leaf.1, .int .i64 leaf.2] 25)).alloc (.cells #[.int .i64 leaf.1, .int .i64 leaf.2, .string { data := #[] }] 39)) (at_row hn) skip)
  have B0 := hide (show Below w.heap.size w ((w.alloc (.cells #[.int .i64 leaf.1, .int .i64 leaf.2] 25)).alloc (.cells #[.int .i64 leaf.1, .int .i64 leaf.2, .string { data := #[] }] 39)) from ((Below.refl _ _).alloc (Nat.le_refl _) _).alloc (by simp) _)
  clear hn
  go_enter Try.func5, Try.ntmps5
  go_wp2_with fail
  refine HIN.out.mono ?_
  rintro e w' ⟨v, rfl, h1, h2, h3⟩
  obtain ⟨aN, cN, hve, hpl, _⟩ := rdp_of h1
  subst hve
  have H1 := hide h1
  have H2 := hide (B0.out.trans (h2.mono B0.out.size))
  have H3 := hide h3
  have hsz := B0.out.size
  clear h1 h2 h3 hpl
  go_wp2_with fail
  go_ret
  exact ⟨_, _, rfl, by omega, H1.out, H2.out, H3.out⟩
end Go.Proofs.Qxb6616227a.Ins
