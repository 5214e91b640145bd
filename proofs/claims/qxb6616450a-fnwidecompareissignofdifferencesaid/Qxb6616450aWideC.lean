import Derived.Test.Qxb6616450aWide
namespace Go.Proofs.Qxb6616450a.Wide
open Go.RowKit
set_option linter.unusedVariables false
set_option linter.unusedSimpArgs false

theorem wrap_sub (a b : Int) (h : a < b) (ha : 0 ≤ a) (hb : b ≤ 18446744073709551615) : IntKind.u64.wrap (a - b) = a - b + 18446744073709551616 := by
  simp only [IntKind.wrap, IntKind.bits, IntKind.signed]
  simp
  omega
theorem zsub_ge (a l b k : Int) (h : k ≤ l) (k0 : 0 ≤ k) (hl : l ≤ 18446744073709551615) (a1 : -2305843009213693952 ≤ a) (a2 : a ≤ 2305843009213693952) (b1 : -2305843009213693952 ≤ b) (b2 : b ≤ 2305843009213693952) (w : World) :
    Calls Try.prog 9 #[.int .i64 a, .int .u64 l, .int .i64 b, .int .u64 k] w fun e w' => e = .returned (.tuple #[.int .i64 (a - b), .int .u64 (l - k)]) ∧ w' = w := by
  go_enter Try.func9, Try.ntmps9
  go_wp2
  go_ret2
  exact ⟨rfl, rfl⟩
theorem zsub_lt (a l b k : Int) (h : l < k) (l0 : 0 ≤ l) (hk : k ≤ 18446744073709551615) (a1 : -2305843009213693952 ≤ a) (a2 : a ≤ 2305843009213693952) (b1 : -2305843009213693952 ≤ b) (b2 : b ≤ 2305843009213693952) (w : World) :
    Calls Try.prog 9 #[.int .i64 a, .int .u64 l, .int .i64 b, .int .u64 k] w fun e w' => e = .returned (.tuple #[.int .i64 (a - b - 1), .int .u64 (l - k + 18446744073709551616)]) ∧ w' = w := by
  have e1 := wrap_sub l k h l0 hk
  obtain ⟨m, hm⟩ : ∃ m, l - k + 18446744073709551616 = m := ⟨_, rfl⟩
  rw [hm] at e1 ⊢
  clear hm
  go_enter Try.func9, Try.ntmps9
  go_wp2
  go_ret2
  exact ⟨rfl, rfl⟩
theorem zinc_lt (h l : Int) (l0 : 0 ≤ l) (hl : l < 18446744073709551615) (w : World) :
    Calls Try.prog 10 #[.int .i64 h, .int .u64 l] w fun e w' => e = .returned (.tuple #[.int .i64 h, .int .u64 (l + 1)]) ∧ w' = w := by
  go_enter Try.func10, Try.ntmps10
  go_wp2
  go_ret2
  exact ⟨rfl, rfl⟩
theorem wrap_max : IntKind.u64.wrap (18446744073709551615 + 1) = 0 := by decide
theorem zinc_max (h : Int) (h1 : -2305843009213693952 ≤ h) (h2 : h ≤ 2305843009213693952) (w : World) :
    Calls Try.prog 10 #[.int .i64 h, .int .u64 18446744073709551615] w fun e w' => e = .returned (.tuple #[.int .i64 (h + 1), .int .u64 0]) ∧ w' = w := by
  go_enter Try.func10, Try.ntmps10
  go_wp2
  go_ret2
  exact ⟨rfl, rfl⟩
theorem cmp_m1 (wh wl uh ul dh dl eh el ah al : Int) (w : World) (q1 : wh ≤ 2305843009213693952) (q2 : -2305843009213693952 ≤ wh) (q3 : uh ≤ 2305843009213693952) (q4 : -2305843009213693952 ≤ uh)
    (hc : wcmp wh wl uh ul = (-1)) (hd : wcmp dh dl 0 0 = (-1)) (he : wcmp eh el 0 0 = 1) (hu : wcmp ah al wh wl = 1) (hv : wcmp wh wl ah al = -1) (c1 : (wh == uh) = false)
    (hS : ∀ w, Calls Try.prog 9 #[.int .i64 wh, .int .u64 wl, .int .i64 uh, .int .u64 ul] w fun e w' => e = .returned (.tuple #[.int .i64 dh, .int .u64 dl]) ∧ w' = w)
    (hE : ∀ w, Calls Try.prog 9 #[.int .i64 uh, .int .u64 ul, .int .i64 wh, .int .u64 wl] w fun e w' => e = .returned (.tuple #[.int .i64 eh, .int .u64 el]) ∧ w' = w)
    (hI : ∀ w, Calls Try.prog 10 #[.int .i64 wh, .int .u64 wl] w fun e w' => e = .returned (.tuple #[.int .i64 ah, .int .u64 al]) ∧ w' = w) :
    Calls Try.prog 4 #[.int .i64 wh, .int .u64 wl, .int .i64 uh, .int .u64 ul] w (PT w) := by
  have HS := hide hS
  have HE := hide hE
  have HI := hide hI
  have k1 := zcompare wh wl uh ul
  rw [hc] at k1
  have k2 := zsign dh dl
  rw [hd] at k2
  have k3 := zsign eh el
  rw [he] at k3
  have k4 := zcompare ah al wh wl
  rw [hu] at k4
  have k5 := zcompare wh wl ah al
  rw [hv] at k5
  have K1 := hide k1
  have K2 := hide k2
  have K3 := hide k3
  have K4 := hide k4
  have K5 := hide k5
  clear hS hE hI k1 k2 k3 k4 k5 hc hd he hu hv
  go_enter Try.func4, Try.ntmps4
  go_wp2_with fail
  refine (K1.out _).mono ?_
  rintro e w1 ⟨rfl, g1⟩
  go_wp2_with fail
  refine (HS.out _).mono ?_
  rintro e w2 ⟨rfl, hw⟩
  subst w2
  go_wp2_with fail
  refine (K2.out _).mono ?_
  rintro e w3 ⟨rfl, g3⟩
  go_wp2_with fail
  refine (HE.out _).mono ?_
  rintro e w2 ⟨rfl, hw⟩
  subst w2
  go_wp2_with fail
  refine (K3.out _).mono ?_
  rintro e w4 ⟨rfl, g4⟩
  go_wp2_with fail
  refine (HI.out _).mono ?_
  rintro e w2 ⟨rfl, hw⟩
  subst w2
  go_wp2_with fail
  refine (K4.out _).mono ?_
  rintro e w5 ⟨rfl, g5⟩
  go_wp2_with fail
  refine (K5.out _).mono ?_
  rintro e w6 ⟨rfl, g6⟩
  go_wp2_with fail
  go_ret
  exact ⟨rfl, grown_trans g1 (grown_trans g3 (grown_trans g4 (grown_trans g5 g6)))⟩
theorem cmp_m2 (wh wl uh ul dh dl eh el ah al : Int) (w : World) (q1 : wh ≤ 2305843009213693952) (q2 : -2305843009213693952 ≤ wh) (q3 : uh ≤ 2305843009213693952) (q4 : -2305843009213693952 ≤ uh)
    (hc : wcmp wh wl uh ul = (-1)) (hd : wcmp dh dl 0 0 = (-1)) (he : wcmp eh el 0 0 = 1) (hu : wcmp ah al wh wl = 1) (hv : wcmp wh wl ah al = -1) (c1 : (wh == uh) = true) (c2 : (wl == ul) = false)
    (hS : ∀ w, Calls Try.prog 9 #[.int .i64 wh, .int .u64 wl, .int .i64 uh, .int .u64 ul] w fun e w' => e = .returned (.tuple #[.int .i64 dh, .int .u64 dl]) ∧ w' = w)
    (hE : ∀ w, Calls Try.prog 9 #[.int .i64 uh, .int .u64 ul, .int .i64 wh, .int .u64 wl] w fun e w' => e = .returned (.tuple #[.int .i64 eh, .int .u64 el]) ∧ w' = w)
    (hI : ∀ w, Calls Try.prog 10 #[.int .i64 wh, .int .u64 wl] w fun e w' => e = .returned (.tuple #[.int .i64 ah, .int .u64 al]) ∧ w' = w) :
    Calls Try.prog 4 #[.int .i64 wh, .int .u64 wl, .int .i64 uh, .int .u64 ul] w (PT w) := by
  have HS := hide hS
  have HE := hide hE
  have HI := hide hI
  have k1 := zcompare wh wl uh ul
  rw [hc] at k1
  have k2 := zsign dh dl
  rw [hd] at k2
  have k3 := zsign eh el
  rw [he] at k3
  have k4 := zcompare ah al wh wl
  rw [hu] at k4
  have k5 := zcompare wh wl ah al
  rw [hv] at k5
  have K1 := hide k1
  have K2 := hide k2
  have K3 := hide k3
  have K4 := hide k4
  have K5 := hide k5
  clear hS hE hI k1 k2 k3 k4 k5 hc hd he hu hv
  go_enter Try.func4, Try.ntmps4
  go_wp2_with fail
  refine (K1.out _).mono ?_
  rintro e w1 ⟨rfl, g1⟩
  go_wp2_with fail
  refine (HS.out _).mono ?_
  rintro e w2 ⟨rfl, hw⟩
  subst w2
  go_wp2_with fail
  refine (K2.out _).mono ?_
  rintro e w3 ⟨rfl, g3⟩
  go_wp2_with fail
  refine (HE.out _).mono ?_
  rintro e w2 ⟨rfl, hw⟩
  subst w2
  go_wp2_with fail
  refine (K3.out _).mono ?_
  rintro e w4 ⟨rfl, g4⟩
  go_wp2_with fail
  refine (HI.out _).mono ?_
  rintro e w2 ⟨rfl, hw⟩
  subst w2
  go_wp2_with fail
  refine (K4.out _).mono ?_
  rintro e w5 ⟨rfl, g5⟩
  go_wp2_with fail
  refine (K5.out _).mono ?_
  rintro e w6 ⟨rfl, g6⟩
  go_wp2_with fail
  go_ret
  exact ⟨rfl, grown_trans g1 (grown_trans g3 (grown_trans g4 (grown_trans g5 g6)))⟩
theorem cmp_p1 (wh wl uh ul dh dl eh el ah al : Int) (w : World) (q1 : wh ≤ 2305843009213693952) (q2 : -2305843009213693952 ≤ wh) (q3 : uh ≤ 2305843009213693952) (q4 : -2305843009213693952 ≤ uh)
    (hc : wcmp wh wl uh ul = 1) (hd : wcmp dh dl 0 0 = 1) (he : wcmp eh el 0 0 = (-1)) (hu : wcmp ah al wh wl = 1) (hv : wcmp wh wl ah al = -1) (c1 : (wh == uh) = false)
    (hS : ∀ w, Calls Try.prog 9 #[.int .i64 wh, .int .u64 wl, .int .i64 uh, .int .u64 ul] w fun e w' => e = .returned (.tuple #[.int .i64 dh, .int .u64 dl]) ∧ w' = w)
    (hE : ∀ w, Calls Try.prog 9 #[.int .i64 uh, .int .u64 ul, .int .i64 wh, .int .u64 wl] w fun e w' => e = .returned (.tuple #[.int .i64 eh, .int .u64 el]) ∧ w' = w)
    (hI : ∀ w, Calls Try.prog 10 #[.int .i64 wh, .int .u64 wl] w fun e w' => e = .returned (.tuple #[.int .i64 ah, .int .u64 al]) ∧ w' = w) :
    Calls Try.prog 4 #[.int .i64 wh, .int .u64 wl, .int .i64 uh, .int .u64 ul] w (PT w) := by
  have HS := hide hS
  have HE := hide hE
  have HI := hide hI
  have k1 := zcompare wh wl uh ul
  rw [hc] at k1
  have k2 := zsign dh dl
  rw [hd] at k2
  have k3 := zsign eh el
  rw [he] at k3
  have k4 := zcompare ah al wh wl
  rw [hu] at k4
  have k5 := zcompare wh wl ah al
  rw [hv] at k5
  have K1 := hide k1
  have K2 := hide k2
  have K3 := hide k3
  have K4 := hide k4
  have K5 := hide k5
  clear hS hE hI k1 k2 k3 k4 k5 hc hd he hu hv
  go_enter Try.func4, Try.ntmps4
  go_wp2_with fail
  refine (K1.out _).mono ?_
  rintro e w1 ⟨rfl, g1⟩
  go_wp2_with fail
  refine (HS.out _).mono ?_
  rintro e w2 ⟨rfl, hw⟩
  subst w2
  go_wp2_with fail
  refine (K2.out _).mono ?_
  rintro e w3 ⟨rfl, g3⟩
  go_wp2_with fail
  refine (HE.out _).mono ?_
  rintro e w2 ⟨rfl, hw⟩
  subst w2
  go_wp2_with fail
  refine (K3.out _).mono ?_
  rintro e w4 ⟨rfl, g4⟩
  go_wp2_with fail
  refine (HI.out _).mono ?_
  rintro e w2 ⟨rfl, hw⟩
  subst w2
  go_wp2_with fail
  refine (K4.out _).mono ?_
  rintro e w5 ⟨rfl, g5⟩
  go_wp2_with fail
  refine (K5.out _).mono ?_
  rintro e w6 ⟨rfl, g6⟩
  go_wp2_with fail
  go_ret
  exact ⟨rfl, grown_trans g1 (grown_trans g3 (grown_trans g4 (grown_trans g5 g6)))⟩
theorem cmp_p2 (wh wl uh ul dh dl eh el ah al : Int) (w : World) (q1 : wh ≤ 2305843009213693952) (q2 : -2305843009213693952 ≤ wh) (q3 : uh ≤ 2305843009213693952) (q4 : -2305843009213693952 ≤ uh)
    (hc : wcmp wh wl uh ul = 1) (hd : wcmp dh dl 0 0 = 1) (he : wcmp eh el 0 0 = (-1)) (hu : wcmp ah al wh wl = 1) (hv : wcmp wh wl ah al = -1) (c1 : (wh == uh) = true) (c2 : (wl == ul) = false)
    (hS : ∀ w, Calls Try.prog 9 #[.int .i64 wh, .int .u64 wl, .int .i64 uh, .int .u64 ul] w fun e w' => e = .returned (.tuple #[.int .i64 dh, .int .u64 dl]) ∧ w' = w)
    (hE : ∀ w, Calls Try.prog 9 #[.int .i64 uh, .int .u64 ul, .int .i64 wh, .int .u64 wl] w fun e w' => e = .returned (.tuple #[.int .i64 eh, .int .u64 el]) ∧ w' = w)
    (hI : ∀ w, Calls Try.prog 10 #[.int .i64 wh, .int .u64 wl] w fun e w' => e = .returned (.tuple #[.int .i64 ah, .int .u64 al]) ∧ w' = w) :
    Calls Try.prog 4 #[.int .i64 wh, .int .u64 wl, .int .i64 uh, .int .u64 ul] w (PT w) := by
  have HS := hide hS
  have HE := hide hE
  have HI := hide hI
  have k1 := zcompare wh wl uh ul
  rw [hc] at k1
  have k2 := zsign dh dl
  rw [hd] at k2
  have k3 := zsign eh el
  rw [he] at k3
  have k4 := zcompare ah al wh wl
  rw [hu] at k4
  have k5 := zcompare wh wl ah al
  rw [hv] at k5
  have K1 := hide k1
  have K2 := hide k2
  have K3 := hide k3
  have K4 := hide k4
  have K5 := hide k5
  clear hS hE hI k1 k2 k3 k4 k5 hc hd he hu hv
  go_enter Try.func4, Try.ntmps4
  go_wp2_with fail
  refine (K1.out _).mono ?_
  rintro e w1 ⟨rfl, g1⟩
  go_wp2_with fail
  refine (HS.out _).mono ?_
  rintro e w2 ⟨rfl, hw⟩
  subst w2
  go_wp2_with fail
  refine (K2.out _).mono ?_
  rintro e w3 ⟨rfl, g3⟩
  go_wp2_with fail
  refine (HE.out _).mono ?_
  rintro e w2 ⟨rfl, hw⟩
  subst w2
  go_wp2_with fail
  refine (K3.out _).mono ?_
  rintro e w4 ⟨rfl, g4⟩
  go_wp2_with fail
  refine (HI.out _).mono ?_
  rintro e w2 ⟨rfl, hw⟩
  subst w2
  go_wp2_with fail
  refine (K4.out _).mono ?_
  rintro e w5 ⟨rfl, g5⟩
  go_wp2_with fail
  refine (K5.out _).mono ?_
  rintro e w6 ⟨rfl, g6⟩
  go_wp2_with fail
  go_ret
  exact ⟨rfl, grown_trans g1 (grown_trans g3 (grown_trans g4 (grown_trans g5 g6)))⟩
theorem cmp_0 (wh wl uh ul dh dl eh el ah al : Int) (w : World) (q1 : wh ≤ 2305843009213693952) (q2 : -2305843009213693952 ≤ wh) (q3 : uh ≤ 2305843009213693952) (q4 : -2305843009213693952 ≤ uh)
    (hc : wcmp wh wl uh ul = 0) (hd : wcmp dh dl 0 0 = 0) (he : wcmp eh el 0 0 = 0) (hu : wcmp ah al wh wl = 1) (hv : wcmp wh wl ah al = -1) (c1 : (wh == uh) = true) (c2 : (wl == ul) = true)
    (hS : ∀ w, Calls Try.prog 9 #[.int .i64 wh, .int .u64 wl, .int .i64 uh, .int .u64 ul] w fun e w' => e = .returned (.tuple #[.int .i64 dh, .int .u64 dl]) ∧ w' = w)
    (hE : ∀ w, Calls Try.prog 9 #[.int .i64 uh, .int .u64 ul, .int .i64 wh, .int .u64 wl] w fun e w' => e = .returned (.tuple #[.int .i64 eh, .int .u64 el]) ∧ w' = w)
    (hI : ∀ w, Calls Try.prog 10 #[.int .i64 wh, .int .u64 wl] w fun e w' => e = .returned (.tuple #[.int .i64 ah, .int .u64 al]) ∧ w' = w) :
    Calls Try.prog 4 #[.int .i64 wh, .int .u64 wl, .int .i64 uh, .int .u64 ul] w (PT w) := by
  have HS := hide hS
  have HE := hide hE
  have HI := hide hI
  have k1 := zcompare wh wl uh ul
  rw [hc] at k1
  have k2 := zsign dh dl
  rw [hd] at k2
  have k3 := zsign eh el
  rw [he] at k3
  have k4 := zcompare ah al wh wl
  rw [hu] at k4
  have k5 := zcompare wh wl ah al
  rw [hv] at k5
  have K1 := hide k1
  have K2 := hide k2
  have K3 := hide k3
  have K4 := hide k4
  have K5 := hide k5
  clear hS hE hI k1 k2 k3 k4 k5 hc hd he hu hv
  go_enter Try.func4, Try.ntmps4
  go_wp2_with fail
  refine (K1.out _).mono ?_
  rintro e w1 ⟨rfl, g1⟩
  go_wp2_with fail
  refine (HS.out _).mono ?_
  rintro e w2 ⟨rfl, hw⟩
  subst w2
  go_wp2_with fail
  refine (K2.out _).mono ?_
  rintro e w3 ⟨rfl, g3⟩
  go_wp2_with fail
  refine (HE.out _).mono ?_
  rintro e w2 ⟨rfl, hw⟩
  subst w2
  go_wp2_with fail
  refine (K3.out _).mono ?_
  rintro e w4 ⟨rfl, g4⟩
  go_wp2_with fail
  refine (HI.out _).mono ?_
  rintro e w2 ⟨rfl, hw⟩
  subst w2
  go_wp2_with fail
  refine (K4.out _).mono ?_
  rintro e w5 ⟨rfl, g5⟩
  go_wp2_with fail
  refine (K5.out _).mono ?_
  rintro e w6 ⟨rfl, g6⟩
  go_wp2_with fail
  go_ret
  exact ⟨rfl, grown_trans g1 (grown_trans g3 (grown_trans g4 (grown_trans g5 g6)))⟩

/-- What one more does. -/
theorem inc_ex (h l : Int) (l0 : 0 ≤ l) (hl : l ≤ 18446744073709551615) (h1 : -2305843009213693952 ≤ h) (h2 : h ≤ 2305843009213693952) :
    ∃ ah al, (∀ w, Calls Try.prog 10 #[.int .i64 h, .int .u64 l] w fun e w' => e = .returned (.tuple #[.int .i64 ah, .int .u64 al]) ∧ w' = w) ∧ wcmp ah al h l = 1 ∧ wcmp h l ah al = -1 := by
  by_cases c : l = 18446744073709551615
  · subst c
    exact ⟨_, _, zinc_max h h1 h2, wcmp_gt _ _ _ _ (by omega), wcmp_lt _ _ _ _ (by omega)⟩
  · exact ⟨_, _, zinc_lt h l l0 (by omega), by rw [wcmp_eq, sgn_pos _ _ (by omega)], by rw [wcmp_eq, sgn_neg _ _ (by omega)]⟩
/-- What a difference is. -/
theorem sub_ex (a l b k : Int) (l0 : 0 ≤ l) (hl : l ≤ 18446744073709551615) (k0 : 0 ≤ k) (hk : k ≤ 18446744073709551615) (a1 : -2305843009213693952 ≤ a) (a2 : a ≤ 2305843009213693952) (b1 : -2305843009213693952 ≤ b) (b2 : b ≤ 2305843009213693952) :
    ∃ dh dl, (∀ w, Calls Try.prog 9 #[.int .i64 a, .int .u64 l, .int .i64 b, .int .u64 k] w fun e w' => e = .returned (.tuple #[.int .i64 dh, .int .u64 dl]) ∧ w' = w) ∧ wcmp dh dl 0 0 = wcmp a l b k := by
  by_cases c : l < k
  · refine ⟨_, _, zsub_lt a l b k c l0 hk a1 a2 b1 b2, ?_⟩
    by_cases d : a ≤ b
    · rw [wcmp_lt _ _ _ _ (show a - b - 1 < 0 by omega)]
      by_cases e : a = b
      · subst e; rw [wcmp_eq, sgn_neg _ _ c]
      · rw [wcmp_lt _ _ _ _ (by omega)]
    · rw [wcmp_gt a l b k (by omega)]
      by_cases e : a - b - 1 = 0
      · rw [e, wcmp_eq, sgn_pos _ _ (by omega)]
      · rw [wcmp_gt _ _ _ _ (by omega)]
  · refine ⟨_, _, zsub_ge a l b k (by omega) k0 hl a1 a2 b1 b2, ?_⟩
    by_cases d : a < b
    · rw [wcmp_lt _ _ _ _ (show a - b < 0 by omega), wcmp_lt _ _ _ _ d]
    · by_cases e : a = b
      · subst e
        rw [show a - a = 0 by omega, wcmp_eq, wcmp_eq]
        by_cases f : l = k
        · subst f; rw [sgn_eq _ _ (by omega), sgn_eq _ _ rfl]
        · rw [sgn_pos _ _ (by omega), sgn_pos _ _ (by omega)]
      · rw [wcmp_gt _ _ _ _ (show 0 < a - b by omega), wcmp_gt _ _ _ _ (by omega)]
theorem cmp_walk (wh wl uh ul : Int) (r2 : 0 ≤ wl ∧ wl ≤ 18446744073709551615) (r4 : 0 ≤ ul ∧ ul ≤ 18446744073709551615) (w : World) :
    Calls Try.prog 4 #[.int .i64 wh, .int .u64 wl, .int .i64 uh, .int .u64 ul] w (PT w) := by
  by_cases c1 : wh ≤ 2305843009213693952
  case neg =>
    go_enter Try.func4, Try.ntmps4
    go_wp2_with fail
    go_ret
    exact ⟨rfl, Grown.refl _⟩
  by_cases c2 : -2305843009213693952 ≤ wh
  case neg =>
    go_enter Try.func4, Try.ntmps4
    go_wp2_with fail
    go_ret
    exact ⟨rfl, Grown.refl _⟩
  by_cases c3 : uh ≤ 2305843009213693952
  case neg =>
    go_enter Try.func4, Try.ntmps4
    go_wp2_with fail
    go_ret
    exact ⟨rfl, Grown.refl _⟩
  by_cases c4 : -2305843009213693952 ≤ uh
  case neg =>
    go_enter Try.func4, Try.ntmps4
    go_wp2_with fail
    go_ret
    exact ⟨rfl, Grown.refl _⟩
  obtain ⟨dh, dl, hS, hd⟩ := sub_ex wh wl uh ul r2.1 r2.2 r4.1 r4.2 c2 c1 c4 c3
  obtain ⟨eh, el, hE, he⟩ := sub_ex uh ul wh wl r4.1 r4.2 r2.1 r2.2 c4 c3 c2 c1
  obtain ⟨ah, al, hI, hu, hv⟩ := inc_ex wh wl r2.1 r2.2 c2 c1
  by_cases d : wh = uh
  · subst d
    by_cases e : wl = ul
    · subst e
      have h0 : wcmp wh wl wh wl = 0 := by rw [wcmp_eq, sgn_eq _ _ rfl]
      exact cmp_0 wh wl wh wl dh dl eh el ah al w c1 c2 c3 c4 h0 (hd.trans h0) (he.trans h0) hu hv (by simp) (by simp) hS hE hI
    · by_cases f : wl < ul
      · have h0 : wcmp wh wl wh ul = -1 := by rw [wcmp_eq, sgn_neg _ _ f]
        have h9 : wcmp wh ul wh wl = 1 := by rw [wcmp_eq, sgn_pos _ _ f]
        exact cmp_m2 wh wl wh ul dh dl eh el ah al w c1 c2 c3 c4 h0 (hd.trans h0) (he.trans h9) hu hv (by simp) (beq_eq_false_iff_ne.2 e) hS hE hI
      · have h0 : wcmp wh wl wh ul = 1 := by rw [wcmp_eq, sgn_pos _ _ (by omega)]
        have h9 : wcmp wh ul wh wl = -1 := by rw [wcmp_eq, sgn_neg _ _ (by omega)]
        exact cmp_p2 wh wl wh ul dh dl eh el ah al w c1 c2 c3 c4 h0 (hd.trans h0) (he.trans h9) hu hv (by simp) (beq_eq_false_iff_ne.2 e) hS hE hI
  · by_cases f : wh < uh
    · have h0 := wcmp_lt wh wl uh ul f
      have h9 := wcmp_gt uh ul wh wl f
      exact cmp_m1 wh wl uh ul dh dl eh el ah al w c1 c2 c3 c4 h0 (hd.trans h0) (he.trans h9) hu hv (beq_eq_false_iff_ne.2 d) hS hE hI
    · have h0 := wcmp_gt wh wl uh ul (by omega)
      have h9 := wcmp_lt uh ul wh wl (by omega)
      exact cmp_p1 wh wl uh ul dh dl eh el ah al w c1 c2 c3 c4 h0 (hd.trans h0) (he.trans h9) hu hv (beq_eq_false_iff_ne.2 d) hS hE hI
end Go.Proofs.Qxb6616450a.Wide
