import Derived.Test.Qxb6616202aFlowA
import Derived.Test.Qxb6616202aFlowG
import Derived.Test.Qxb6616202aLaws
import Derived.Test.Qxb6616202aMathC
import Derived.Test.Qxb6616202aSame
namespace Go.Proofs.Qxb6616202a.Flow
open Go.RowKit Go.Proofs.Qxb6616202a.Kit Go.Proofs.Qxb6616202a.FM
set_option linter.unusedVariables false
set_option linter.unusedSimpArgs false

theorem bytes5 (n p : Int) (a1 a2 : Option Addr) (l1 c1 l2 c2 : Nat) (w : World) (h1 : l1 ≤ maxLen) (h2 : l2 ≤ maxLen) :
    Calls Try.prog 15 #[.int .i64 n, .slice a1 l1 c1, .slice a2 l2 c2, .int .i64 p] w fun e w' => (∃ b, e = .returned (.bool b)) ∧ w' = w := by
  unfold maxLen at h1 h2
  go_enter Try.func15, Try.ntmps15
  go_wp2
  all_goals (go_ret; exact ⟨⟨_, rfl⟩, rfl⟩)

theorem Try.info3 : (Try.prog.info? 3).map (fun i => (i.zero, i.size, i.bytes)) = some (some (.int .i64 0), 1, 8) := by kernel_rfl
def zrow64 (c : Nat) : Array Value := irow .i64 (List.replicate c 0)
theorem make64 (c : Nat) (hc : c ≤ 1000000) (w : World) :
    (Instr.makeSlice 39 (.int .i64 (c : Int)) (.int .i64 (c : Int))).run Try.prog w = .ok (.slice (some ⟨w.heap.size, 0, none⟩) c c) (w.alloc (.cells (zrow64 c) 3)) := by
  obtain ⟨i0, hi, hz0, hz1, hz2⟩ := info_parts Try.info3
  have h := run_make (P := Try.prog) w 39 3 i0 (.int .i64 0) Try.underlying39 hi hz0 .i64 .i64 c c (by omega) (by omega) (by rw [hz2]; omega) (by omega)
  rw [hz1, Nat.mul_one, Int.toNat_natCast, made_zero] at h
  exact h

/-- Two new rows, the last two blocks, written as the call goes. -/
structure Two (k : IntKind) (w wr : World) (L M : List Int) : Prop where
  bel : Below w.heap.size w wr
  o1 : Own k wr w.heap.size L
  o2 : Own k wr (w.heap.size + 1) M
  sz : w.heap.size + 2 ≤ wr.heap.size
theorem Two.set1 {k : IntKind} {w wr : World} {L M : List Int} (h : Two k w wr L M) (i : Nat) (v : Int) (hi : i < L.length) : Two k w (wr.setCell ⟨w.heap.size, i, none⟩ (.int k v)) (L.set i v) M :=
  ⟨h.bel.setCell (Nat.le_refl _) _, h.o1.set i v hi, h.o2.other _ (by show w.heap.size + 1 ≠ w.heap.size; omega), by simpa [World.setCell] using h.sz⟩
theorem Two.set2 {k : IntKind} {w wr : World} {L M : List Int} (h : Two k w wr L M) (i : Nat) (v : Int) (hi : i < M.length) : Two k w (wr.setCell ⟨w.heap.size + 1, i, none⟩ (.int k v)) L (M.set i v) :=
  ⟨h.bel.setCell (by show w.heap.size ≤ w.heap.size + 1; omega) _, h.o1.other _ (by show w.heap.size ≠ w.heap.size + 1; omega), h.o2.set i v hi, by simpa [World.setCell] using h.sz⟩
theorem two_start (k : IntKind) (t : TypeId) (w : World) (L M : List Int) : Two k w ((w.alloc (.cells (irow k L) t)).alloc (.cells (irow k M) t)) L M := by
  have h1 : ((w.alloc (.cells (irow k L) t)).alloc (.cells (irow k M) t)).heap[w.heap.size]? = some (.cells (irow k L) t (0, 0)) := by
    rw [heap_alloc_old _ _ (by simp)]; exact heap_alloc_new w _
  have h2 : ((w.alloc (.cells (irow k L) t)).alloc (.cells (irow k M) t)).heap[w.heap.size + 1]? = some (.cells (irow k M) t (0, 0)) := by
    have := heap_alloc_new (w.alloc (.cells (irow k L) t)) (.cells (irow k M) t)
    simpa using this
  exact ⟨((Below.refl _ _).alloc (Nat.le_refl _) _).alloc (by simp) _, Blk.own (t := t) h1, Blk.own (t := t) h2, by simp⟩

theorem isF_zero' {xs F : List Int} {n : Nat} (h : IsF xs n F) (hb : ∀ j, j < xs.length → 0 ≤ xs.getD j 0 ∧ xs.getD j 0 < n) : F.getD 0 0 = 0 := by
  have := lt_zero xs fun j hj => (hb j hj).1
  rw [h.2 0 (Nat.zero_le _)]
  simp [this]

def PSw (w : World) (e : Ending) (w' : World) : Prop := e = .returned (.bool true) ∧ Below w.heap.size w w'

set_option maxRecDepth 100000 in
set_option maxHeartbeats 2000000 in
theorem swap_walk (n p : Int) (a1 a2 : Option Addr) (c1 c2 : Nat) (xs ys : List Int) (w : World) (hm1 : xs.length ≤ maxLen) (hm2 : ys.length ≤ maxLen)
    (h1 : Rd .i32 w a1 xs) (h2 : Rd .i32 w a2 ys) (b1 : ∀ x ∈ xs, -2147483648 ≤ x ∧ x ≤ 2147483647) (b2 : ∀ x ∈ ys, -2147483648 ≤ x ∧ x ≤ 2147483647) :
    Calls Try.prog 5 #[.int .i64 n, .slice a1 xs.length c1, .slice a2 ys.length c2, .int .i64 p] w (PSw w) := by
  have hm1' := hm1
  have hm2' := hm2
  unfold maxLen at hm1' hm2'
  have H1 := hide h1
  have H2 := hide h2
  have B1 := hide b1
  have B2 := hide b2
  have neq := fun (w : World) (a : Option Addr) (n c n' c' : Nat) => run_neq_slice_nil_any (P := Try.prog) w 31 21 a n c n' c' Try.underlying31
  clear h1 h2 b1 b2
  by_cases hl : ys.length = xs.length
  case neg =>
    have hne : ¬ (xs.length : Int) = ys.length := by omega
    clear hl
    go_enter Try.func5, Try.ntmps5
    go_wp2_with fail
    refine (bytes5 n p a1 a2 _ _ _ _ _ hm1 hm2).mono ?_
    rintro e w' ⟨⟨b, rfl⟩, hw⟩
    subst w'
    cases b
    · go_wp2
      go_ret
      exact ⟨rfl, Below.refl _ _⟩
    clear hm1 hm2
    go_wp2_with fail
    all_goals (go_ret; exact ⟨rfl, Below.refl _ _⟩)
  have HL := hide hl
  rw [hl] at hm2 ⊢
  clear hl hm2'
  go_enter Try.func5, Try.ntmps5
  go_wp2_with fail
  refine (bytes5 n p a1 a2 _ _ _ _ _ hm1 hm2).mono ?_
  rintro e w' ⟨⟨b, rfl⟩, hw⟩
  subst w'
  cases b
  · go_wp2
    go_ret
    exact ⟨rfl, Below.refl _ _⟩
  clear hm1 hm2
  go_wp2_with fail
  any_goals (go_ret; exact ⟨rfl, Below.refl _ _⟩)
  have hm : xs.length ≤ 65536 := by omega
  have hn0 : 0 ≤ n := by omega
  have hn1 : n ≤ 65536 := by omega
  obtain ⟨N, rfl⟩ : ∃ N : Nat, n = N := ⟨n.toNat, by omega⟩
  clear hm1' hn0
  have hcall := edges_any N a1 a2 c1 c2 xs ys w HL.out hm H1.out H2.out B1.out B2.out
  rw [HL.out] at hcall
  refine hcall.mono ?_
  clear hcall
  rintro e w' ⟨⟨b, rfl, hb⟩, hw⟩
  subst w'
  cases b
  · clear hb
    go_wp2
    go_ret
    exact ⟨rfl, Below.refl _ _⟩
  have HB := hide (hb rfl)
  clear hb
  go_upto_region 11 with fail
  any_goals (go_ret; exact ⟨rfl, Below.refl _ _⟩)
  obtain ⟨P, rfl⟩ : ∃ P : Nat, p = P := ⟨p.toNat, by omega⟩
  have hPl : P + 1 < xs.length := by omega
  have hPy : P + 1 < ys.length := by rw [HL.out]; exact hPl
  have hNb : N ≤ 65536 := by omega
  have mk1 : ∀ w, (Instr.makeSlice 31 (.int .i64 (xs.length : Int)) (.int .i64 (xs.length : Int))).run Try.prog w = .ok (.slice (some ⟨w.heap.size, 0, none⟩) xs.length xs.length) (w.alloc (.cells (zrow xs.length) 21)) := fun w => make32 _ (by omega) w
  obtain ⟨bx, ox, rfl, hx0⟩ := H1.out P (by omega)
  obtain ⟨bx', ox', ex, hx1⟩ := H1.out (P + 1) (by omega)
  obtain ⟨rfl, rfl⟩ : bx = bx' ∧ ox = ox' := by simpa using ex
  clear ex
  obtain ⟨b_y, oy, rfl, _⟩ := H2.out P (by omega)
  have bX : ∀ j, j < xs.length → 0 ≤ xs.getD j 0 ∧ xs.getD j 0 < N := fun j hj => (HB.out j hj).1
  have bY : ∀ j, j < ys.length → 0 ≤ ys.getD j 0 ∧ ys.getD j 0 < N := fun j hj => (HB.out j (by rw [← HL.out]; exact hj)).2
  have BX := hide bX
  have BY := hide bY
  clear bX bY HB B1 B2
  have i1 : (P : Int) < (xs.length : Int) := by omega
  have i2 : (P : Int) + 1 < (xs.length : Int) := by omega
  obtain ⟨x0, hx0e⟩ : ∃ x, xs.getD P 0 = x := ⟨_, rfl⟩
  obtain ⟨x1, hx1e⟩ : ∃ x, xs.getD (P + 1) 0 = x := ⟨_, rfl⟩
  rw [hx0e] at hx0
  rw [hx1e] at hx1
  have X0 := hide hx0e
  have X1 := hide hx1e
  clear hx0e hx1e
  by_cases hxx : x0 = x1
  · subst hxx
    go_quiet (fail)
    go_wp2_with fail
    go_ret
    exact ⟨rfl, below_drewN (Below.refl _ _) _⟩
  have hxb : (x0 == x1) = false := beq_eq_false_iff_ne.2 hxx
  go_quiet (fail)
  have bel0 : Below w.heap.size w (w.drewN nq) := below_drewN (Below.refl _ _) _
  have rX0 := hide (H1.out.below bel0)
  have rY0 := hide (H2.out.below bel0)
  generalize w.drewN nq = W at *
  clear hx0 hx1
  go_wp2_with (first
    | (refine copy_step rfl (.tmp 83) (.tmp 84) rfl xs xs.length rfl (some ⟨bx, ox, none⟩) c1 W.heap.size rfl rfl (heap_alloc_new W _) (rX0.out.below ((Below.refl _ _).alloc (Nat.le_refl _) _)) W.heap.size ((Below.refl W.heap.size W).alloc (Nat.le_refl _) _) (Nat.le_refl _) ?_; intro w2 hblk2 hb2)
    | (refine copy_step rfl (.tmp 92) (.tmp 93) rfl ys xs.length HL.out (some ⟨b_y, oy, none⟩) c2 w2.heap.size rfl rfl (heap_alloc_new w2 _) ((rY0.out.below hb2).below ((Below.refl _ _).alloc (Nat.le_refl _) _)) w2.heap.size ((Below.refl w2.heap.size w2).alloc (Nat.le_refl _) _) (Nat.le_refl _) ?_; intro w3 hblk3 hb3))
  have oX3 := hide ((hblk2.own).below hb3 hblk2.lt)
  have oY3 := hide hblk3.own
  have lX : W.heap.size < w3.heap.size := Nat.lt_of_lt_of_le hblk2.lt hb3.size
  have lY : w2.heap.size < w3.heap.size := hblk3.lt
  have belw3 := hide (bel0.trans ((hb2.trans (hb3.mono hb2.size)).mono bel0.size))
  obtain ⟨bX, hbX⟩ : ∃ bX, bX = W.heap.size := ⟨_, rfl⟩
  obtain ⟨bY, hbY⟩ : ∃ bY, bY = w2.heap.size := ⟨_, rfl⟩
  rw [← hbX] at oX3 lX ⊢
  rw [← hbY] at oY3 lY ⊢
  clear hblk2 hblk3 hb2 hb3 rX0 rY0 bel0 H1 H2 neq hbX hbY mk1
  have st0 := two_start .i32 21 w3 (List.replicate xs.length 0) (List.replicate xs.length 0)
  go_loopw [14] (fun i wr => ∃ (k : Nat) (L M : List Int), k ≤ xs.length ∧ i = .int .i64 k ∧ Two .i32 w3 wr L M ∧ Cp xs k L ∧ Cp ys k M) (fun i _ => xs.length - (intOf i).toNat)
  case atStart => exact ⟨0, _, _, Nat.zero_le _, rfl, st0, Cp_start _ _ rfl, Cp_start _ _ HL.out⟩
  case round =>
    obtain ⟨k, L, M, hk, rfl, hS, hL, hM⟩ := hrel
    clear st0
    have n1 : bX ≠ w3.heap.size := by omega
    have n2 : bY ≠ w3.heap.size := by omega
    by_cases hlt : k < xs.length
    · have cX := (oX3.out.below hS.bel lX).cell k hlt
      have cY := (oY3.out.below hS.bel lY).cell k (by rw [HL.out]; exact hlt)
      have cL := hS.o1.cell k (by rw [hL.1]; exact hlt)
      have fL := hS.o1.froz k (by rw [hL.1]; exact hlt)
      have cM := hS.o2.cell k (by rw [hM.1, HL.out]; exact hlt)
      have fM := hS.o2.froz k (by rw [hM.1, HL.out]; exact hlt)
      have R1 := (hS.set1 k (xs.getD k 0) (by rw [hL.1]; exact hlt)).set2 k (ys.getD k 0) (by rw [hM.1, HL.out]; exact hlt)
      have R2 := Cp_step hL hlt
      have R3 := Cp_step hM (by rw [HL.out]; exact hlt)
      generalize xs.getD k 0 = x at *
      generalize ys.getD k 0 = y at *
      generalize L.getD k 0 = l at *
      generalize M.getD k 0 = m at *
      have R1 := hide R1
      have R2 := hide R2
      have R3 := hide R3
      clear hS hL hM
      go_wp2
      go_roundw
      case rel => exact ⟨k + 1, _, _, by omega, by go_num, R1.out, R2.out, R3.out⟩
      case measure => simp [intOf]; omega
    · obtain rfl : k = xs.length := by omega
      obtain rfl := Cp_end hL
      have hM' : Cp ys ys.length M := by rw [HL.out]; exact hM
      obtain rfl := Cp_end hM'
      clear hL hM hM'
      have cX0 := (oX3.out.below hS.bel lX).cell P (by omega)
      have cX1 := (oX3.out.below hS.bel lX).cell (P + 1) hPl
      have cY0 := (oY3.out.below hS.bel lY).cell P (by omega)
      have cY1 := (oY3.out.below hS.bel lY).cell (P + 1) hPy
      rw [X0.out] at cX0
      rw [X1.out] at cX1
      obtain ⟨y0, hy0e⟩ : ∃ y, M.getD P 0 = y := ⟨_, rfl⟩
      obtain ⟨y1, hy1e⟩ : ∃ y, M.getD (P + 1) 0 = y := ⟨_, rfl⟩
      rw [hy0e] at cY0
      rw [hy1e] at cY1
      have cL0 := hS.o1.cell P (by omega)
      have cL1 := hS.o1.cell (P + 1) hPl
      have fL0 := hS.o1.froz P (by omega)
      have fL1 := hS.o1.froz (P + 1) hPl
      have cM0 := hS.o2.cell P (by omega)
      have cM1 := hS.o2.cell (P + 1) hPy
      have fM0 := hS.o2.froz P (by omega)
      have fM1 := hS.o2.froz (P + 1) hPy
      rw [X0.out] at cL0
      rw [X1.out] at cL1
      rw [hy0e] at cM0
      rw [hy1e] at cM1
      have hS4 := (((hS.set1 P x1 (by omega)).set1 (P + 1) x0 (by simpa using hPl)).set2 P y1 (by omega)).set2 (P + 1) y0 (by simpa using hPy)
      have e1 : (L.set P x1).set (P + 1) x0 = swp L P := by unfold swp; rw [X0.out, X1.out]
      have e2 : (M.set P y1).set (P + 1) y0 = swp M P := by unfold swp; rw [hy0e, hy1e]
      rw [e1, e2] at hS4
      have HS4 := hide hS4
      have Y0 := hide hy0e
      have Y1 := hide hy1e
      clear hS hS4 e1 e2 hy0e hy1e
      go_wp2_with fail
      have oX4 := oX3.out.below HS4.out.bel lX
      have oY4 := oY3.out.below HS4.out.bel lY
      have hc1 := flow_any N (some ⟨bX, 0, none⟩) (some ⟨bY, 0, none⟩) L.length L.length L M _ HL.out hNb (by omega) oX4.rd oY4.rd BX.out BY.out
      rw [HL.out] at hc1
      refine hc1.mono ?_
      clear hc1
      rintro e w5 ⟨b1, b2, b3, b4, F, G, F', G', rfl, HF⟩
      rw [HL.out]
      have lX4 := Nat.lt_of_lt_of_le lX HS4.out.bel.size
      have lY4 := Nat.lt_of_lt_of_le lY HS4.out.bel.size
      have oX5 := oX4.below HF.bel lX4
      have oY5 := oY4.below HF.bel lY4
      have oT5 := HS4.out.o1.below HF.bel (by have := HS4.out.sz; omega)
      have oH5 := HS4.out.o2.below HF.bel (by have := HS4.out.sz; omega)
      have bel5 := belw3.out.trans ((HS4.out.bel.trans (HF.bel.mono HS4.out.bel.size)).mono belw3.out.size)
      have HF1 := hide HF
      have BEL5 := hide bel5
      have OX5 := hide oX5
      have OY5 := hide oY5
      have LX5 := hide (Nat.lt_of_lt_of_le lX4 HF.bel.size)
      have LY5 := hide (Nat.lt_of_lt_of_le lY4 HF.bel.size)
      clear HF oX4 oY4 oX5 oY5 bel5 HS4 lX4 lY4 cX0 cX1 cY0 cY1 cL0 cL1 cM0 cM1 fL0 fL1 fM0 fM1
      go_wp2_with fail
      have hc2 := flow_any N _ _ L.length L.length (swp L P) (swp M P) w5 (by rw [swp_length, swp_length, HL.out]) hNb (by rw [swp_length]; omega) oT5.rd oH5.rd (swp_all L P N hPl BX.out) (swp_all M P N hPy BY.out)
      rw [swp_length, swp_length, HL.out] at hc2
      refine hc2.mono ?_
      clear hc2
      rintro e w6 ⟨b5, b6, b7, b8, F2, G2, F2', G2', rfl, HF2⟩
      rw [swp_length, swp_length, HL.out]
      have q1 := HF1.out.later HF2.bel
      obtain rfl := swp_F hPl q1.f1 HF2.f1
      obtain rfl := swp_F hPy q1.f2 HF2.f2
      have hxx' : L.getD P 0 ≠ L.getD (P + 1) 0 := by rw [X0.out, X1.out]; exact hxx
      obtain rfl := swp_T hPl HL.out hxx' BX.out q1.t1 HF2.t1
      have c0 := q1.o1.cell 0 (by rw [q1.f1.1]; omega)
      have c1' := q1.o3.cell 0 (by rw [q1.f2.1]; omega)
      rw [isF_zero' q1.f1 BX.out] at c0
      rw [isF_zero' q1.f2 BY.out] at c1'
      have oX6 := OX5.out.below HF2.bel LX5.out
      have oY6 := OY5.out.below HF2.bel LY5.out
      have bel6 := BEL5.out.trans (HF2.bel.mono BEL5.out.size)
      have lX6 := Nat.lt_of_lt_of_le LX5.out HF2.bel.size
      have lY6 := Nat.lt_of_lt_of_le LY5.out HF2.bel.size
      have cY0 := oY6.cell P (by omega)
      have cY1 := oY6.cell (P + 1) hPy
      rw [Y0.out] at cY0
      rw [Y1.out] at cY1
      have Q1 := hide q1
      have Q2 := hide HF2
      have OX6 := hide oX6
      have OY6 := hide oY6
      have BEL6 := hide bel6
      have S1 := hide (fun (q : Nat) => same_any b1 b5 (N + 1) (N + 1) (N + 1) F (w6.drewN q) q1.o1 HF2.o1 q1.f1.1 (by omega))
      have S2 := hide (fun (q : Nat) => same_any b2 b6 L.length L.length L.length G (w6.drewN q) q1.o2 HF2.o2 q1.t1.1 (by omega))
      have S3 := hide (fun (q : Nat) => same_any b3 b7 (N + 1) (N + 1) (N + 1) F' (w6.drewN q) q1.o3 HF2.o3 q1.f2.1 (by omega))
      clear q1 HF2 HF1 oT5 oH5 oX6 oY6 bel6 BEL5 OX5 OY5 LX5 LY5
      go_wp2_with fail
      refine (S1.out 0).mono ?_
      rintro e w7 ⟨rfl, q, rfl⟩
      go_wp2_with fail
      refine (S2.out q).mono ?_
      rintro e w7 ⟨rfl, q2, rfl⟩
      rw [World.drewN_drewN]
      go_wp2_with fail
      refine (S3.out (q + q2)).mono ?_
      rintro e w7 ⟨rfl, q3, rfl⟩
      rw [World.drewN_drewN]
      have bel8 : Below w6.heap.size w6 (w6.drewN (q + q2 + q3)) := below_drewN (Below.refl _ _) _
      have Q1 := hide (Q1.out.later bel8)
      have Q2 := hide (Q2.out.later bel8)
      have OX8 := hide (OX6.out.below bel8 lX6)
      have OY8 := hide (OY6.out.below bel8 lY6)
      have lX8 := Nat.lt_of_lt_of_le lX6 bel8.size
      have lY8 := Nat.lt_of_lt_of_le lY6 bel8.size
      have BEL8 := hide (BEL6.out.trans (bel8.mono BEL6.out.size))
      have c0 : (w6.drewN (q + q2 + q3)).cell? ⟨b1, 0, none⟩ = some (.int .i32 0) := c0
      have c1' : (w6.drewN (q + q2 + q3)).cell? ⟨b3, 0, none⟩ = some (.int .i32 0) := c1'
      have cY0 : (w6.drewN (q + q2 + q3)).cell? ⟨bY, P, none⟩ = some (.int .i32 y0) := cY0
      have cY1 : (w6.drewN (q + q2 + q3)).cell? ⟨bY, P + 1, none⟩ = some (.int .i32 y1) := cY1
      generalize w6.drewN (q + q2 + q3) = w8 at *
      clear S1 S2 S3 OX6 OY6 BEL6 lX6 lY6 bel8
      go_upto_region 37 with fail
      go_cut [202] from 187 (fun v wx => v = .bool false ∧ ∃ r, wx = w8.drewN r)
      case first =>
        by_cases hyy : y0 = y1
        · subst hyy
          have hyb : (y0 != y0) = false := by simp
          go_quiet (fail)
          go_wp2_with fail
          go_meet
          case rel => exact ⟨rfl, _, rfl⟩
        · have hyb : (y0 != y1) = true := by rw [bne_iff_ne]; exact hyy
          have hyy' : M.getD P 0 ≠ M.getD (P + 1) 0 := by rw [Y0.out, Y1.out]; exact hyy
          have hG := swp_T hPy HL.out.symm hyy' BY.out Q1.out.t2 Q2.out.t2
          subst hG
          have S4 := hide (fun (q : Nat) => same_any b4 b8 L.length L.length L.length G' (w8.drewN q) Q1.out.o4 Q2.out.o4 (by rw [Q1.out.t2.1, HL.out]) (by omega))
          go_quiet ((go_at_call 16; exact Calls.quiet_of (S4.out _)))
          go_wp2_with fail
          go_meet
          case rel => exact ⟨rfl, _, rfl⟩
      case rest =>
        obtain ⟨rfl, r, rfl⟩ := hcut
        have bel9 : Below w8.heap.size w8 (w8.drewN r) := below_drewN (Below.refl _ _) _
        have Q1 := hide (Q1.out.later bel9)
        have OX9 := hide (OX8.out.below bel9 lX8)
        have OY9 := hide (OY8.out.below bel9 lY8)
        have lX9 := Nat.lt_of_lt_of_le lX8 bel9.size
        have lY9 := Nat.lt_of_lt_of_le lY8 bel9.size
        have BEL9 := hide (BEL8.out.trans (bel9.mono BEL8.out.size))
        have c0 : (w8.drewN r).cell? ⟨b1, 0, none⟩ = some (.int .i32 0) := c0
        have c1' : (w8.drewN r).cell? ⟨b3, 0, none⟩ = some (.int .i32 0) := c1'
        generalize w8.drewN r = w9 at *
        clear OX8 OY8 BEL8 lX8 lY8 bel9 Q2 cY0 cY1
        have mk3 : ∀ w, (Instr.makeSlice 39 (.int .i64 (N : Int)) (.int .i64 (N : Int))).run Try.prog w = .ok (.slice (some ⟨w.heap.size, 0, none⟩) N N) (w.alloc (.cells (zrow64 N) 3)) := fun w => make64 _ (by omega) w
        go_wp2_with fail
        have st0 := two_start .i64 3 w9 (List.replicate N 0) (List.replicate N 0)
        have lM : M.length = L.length := HL.out
        clear mk3 c0 c1'
        go_loopw [25] (fun i wr => ∃ (k : Nat) (O I : List Int), k ≤ L.length ∧ i = .int .i64 k ∧ Two .i64 w9 wr O I ∧ C1 L N k O ∧ C1 M N k I) (fun i _ => L.length - (intOf i).toNat)
        case atStart => exact ⟨0, _, _, Nat.zero_le _, rfl, st0, C1_start _ _, C1_start _ _⟩
        case round =>
          obtain ⟨k, O, I, hk, rfl, hS, hO, hI⟩ := hrel
          clear st0
          have m1 : bX ≠ w9.heap.size := by omega
          have m2 : bY ≠ w9.heap.size := by omega
          have HLM := hide lM
          clear lM
          by_cases hlt : k < L.length
          · have cX := (OX9.out.below hS.bel lX9).cell k hlt
            have cY := (OY9.out.below hS.bel lY9).cell k (by rw [HL.out]; exact hlt)
            obtain ⟨x, hxe, hxn⟩ : ∃ x : Nat, L.getD k 0 = x ∧ x < N := ⟨(L.getD k 0).toNat, by have := BX.out k hlt; omega, by have := BX.out k hlt; omega⟩
            obtain ⟨y, hye, hyn⟩ : ∃ y : Nat, M.getD k 0 = y ∧ y < N := ⟨(M.getD k 0).toNat, by have := BY.out k (by rw [HL.out]; exact hlt); omega, by have := BY.out k (by rw [HL.out]; exact hlt); omega⟩
            rw [hxe] at cX
            rw [hye] at cY
            have cO := hS.o1.cell x (by rw [hO.1]; exact hxn)
            have fO := hS.o1.froz x (by rw [hO.1]; exact hxn)
            have cI := hS.o2.cell y (by rw [hI.1]; exact hyn)
            have fI := hS.o2.froz y (by rw [hI.1]; exact hyn)
            have d1 := C1_bd hO x hxn
            have d2 := C1_bd hI y hyn
            have R1 := (hS.set1 x (O.getD x 0 + 1) (by rw [hO.1]; exact hxn)).set2 y (I.getD y 0 + 1) (by rw [hI.1]; exact hyn)
            have R2 := C1_step hO hlt x hxe hxn
            have R3 := C1_step hI (by rw [HL.out]; exact hlt) y hye hyn
            rw [HL.out] at d2
            generalize O.getD x 0 = o at *
            generalize I.getD y 0 = ii at *
            obtain ⟨d3, d4⟩ := d1
            obtain ⟨d5, d6⟩ := d2
            have R1 := hide R1
            have R2 := hide R2
            have R3 := hide R3
            clear hS hO hI hxe hye
            go_wp2
            go_roundw
            case rel => exact ⟨k + 1, _, _, by omega, by go_num, R1.out, R2.out, R3.out⟩
            case measure => simp [intOf]; omega
          · obtain rfl : k = L.length := by omega
            have hI' : C1 M N M.length I := by rw [HL.out]; exact hI
            have bel10 := hS.bel
            have q1 := Q1.out.later bel10
            have E1 := hide (fun v hv => C1_end hO q1.f1 v hv)
            have E2 := hide (fun v hv => C1_end hI' q1.f2 v hv)
            have O1 := hide hS.o1
            have O2 := hide hS.o2
            have lO := hide hO.1
            have lI := hide hI.1
            have Q3 := hide q1
            have BEL10 := hide (BEL9.out.trans (bel10.mono BEL9.out.size))
            clear hS hO hI hI' bel10 q1
            go_wp2_with fail
            go_loopw [26] (fun i wx => ∃ v : Nat, v ≤ N ∧ i = .int .i64 v ∧ ∃ r, wx = wr.drewN r) (fun i _ => N - (intOf i).toNat)
            case atStart => exact ⟨0, Nat.zero_le _, rfl, 0, rfl⟩
            case round =>
              obtain ⟨v, hv, rfl, r, rfl⟩ := hrel
              by_cases hlt : v < N
              · have e1 := E1.out v hlt
                have e2 := E2.out v hlt
                have f1 := Q3.out.o1.cell (v + 1) (by rw [Q3.out.f1.1]; omega)
                have f2 := Q3.out.o1.cell v (by rw [Q3.out.f1.1]; omega)
                have f3 := Q3.out.o3.cell (v + 1) (by rw [Q3.out.f2.1]; omega)
                have f4 := Q3.out.o3.cell v (by rw [Q3.out.f2.1]; omega)
                have f5 := O1.out.cell v (by rw [lO.out]; exact hlt)
                have f6 := O2.out.cell v (by rw [lI.out]; exact hlt)
                rw [e1.1] at f1
                rw [e2.1] at f3
                generalize F.getD v 0 = f at *
                generalize F'.getD v 0 = g at *
                generalize O.getD v 0 = o at *
                generalize I.getD v 0 = ii at *
                obtain ⟨_, e11, e12, e13, e14⟩ := e1
                obtain ⟨_, e21, e22, e23, e24⟩ := e2
                rw [HL.out] at e22 e24
                have hd1 : (f + o - f != o) = false := by simp; omega
                have hd2 : (g + ii - g != ii) = false := by simp; omega
                have j1 : (v : Int) + 1 < (N : Int) + 1 := by omega
                have j2 : (v : Int) < (N : Int) + 1 := by omega
                have j3 : (v : Int) < (N : Int) := by omega
                go_wp2
                go_quiet (fail)
                go_wp2
                go_roundw
                case rel => exact ⟨v + 1, by omega, by go_num, _, rfl⟩
                case measure => simp [intOf]; omega
              · go_wp2
                go_ret
                exact ⟨rfl, below_drewN BEL10.out _⟩
end Go.Proofs.Qxb6616202a.Flow
