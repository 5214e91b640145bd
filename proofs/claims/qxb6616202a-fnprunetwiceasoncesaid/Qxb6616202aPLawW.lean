import Derived.Test.Qxb6616202aPLawB
import Derived.Test.Qxb6616202aPDomB
namespace Go.Proofs.Qxb6616202a.Prune
open Go.RowKit Go.Proofs.Qxb6616202a.Kit Go.Proofs.Qxb6616202a.Flow
set_option linter.unusedVariables false
set_option linter.unusedSimpArgs false

def PTrue (w : World) (e : Ending) (w' : World) : Prop := e = .returned (.bool true) ∧ Below w.heap.size w w'

set_option maxRecDepth 100000 in
set_option maxHeartbeats 20000000 in
theorem prune_law (nk nl nr : List Int) (id : Int) (lk : List Int) (Ls : List (List Int)) (il sl : List Int) (st pr : Int) (a0 a1 a2 a4 a5 a6 a7 : Option Addr) (c0 c1 c2 c4 c5 c6 c7 : Nat) (w : World)
    (h0 : Rd .i32 w a0 nk) (h1 : Rd .i32 w a1 nl) (h2 : Rd .i32 w a2 nr) (h4 : Rd .i32 w a4 lk) (h5 : RdL w a5 Ls) (h6 : Rd .i64 w a6 il) (h7 : Rd .i32 w a7 sl)
    (x0 : nk.length ≤ maxLen) (x1 : nl.length ≤ maxLen) (x2 : nr.length ≤ maxLen) (x4 : lk.length ≤ maxLen) (x5 : Ls.length ≤ maxLen) (x6 : il.length ≤ maxLen) (x7 : sl.length ≤ maxLen) (xm : ∀ i, i < Ls.length → (Ls.getD i []).length ≤ maxLen)
    (y1 : ∀ x ∈ nl, -2147483648 ≤ x ∧ x ≤ 2147483647) (y2 : ∀ x ∈ nr, -2147483648 ≤ x ∧ x ≤ 2147483647) (y4 : ∀ x ∈ lk, -2147483648 ≤ x ∧ x ≤ 2147483647) (y7 : ∀ x ∈ sl, -2147483648 ≤ x ∧ x ≤ 2147483647) (hid : -2147483648 ≤ id ∧ id ≤ 2147483647) :
    Calls Try.prog 6 #[.slice a0 nk.length c0, .slice a1 nl.length c1, .slice a2 nr.length c2, .int .i32 id, .slice a4 lk.length c4, .slice a5 Ls.length c5, .slice a6 il.length c6, .slice a7 sl.length c7, .int .i64 st, .int .i64 pr] w (PTrue w) := by
  have H0 := hide h0
  have H1 := hide h1
  have H2 := hide h2
  have H4 := hide h4
  have H5 := hide h5
  have H6 := hide h6
  have H7 := hide h7
  have XM := hide xm
  have Y1 := hide y1
  have Y2 := hide y2
  have Y4 := hide y4
  have Y7 := hide y7
  obtain ⟨i1, i2⟩ := hid
  clear h0 h1 h2 h4 h5 h6 h7 xm y1 y2 y4 y7
  have neq := fun (w : World) (a : Option Addr) (n c n' c' : Nat) => run_neq_slice_nil_any (P := Try.prog) w 31 21 a n c n' c' Try.underlying31
  have neq2 := fun (w : World) (a : Option Addr) (n c n' c' : Nat) => run_neq_slice_nil_any (P := Try.prog) w 39 3 a n c n' c' Try.underlying39
  have belw := hide (Below.refl w.heap.size w)
  go_enter Try.func6, Try.ntmps6
  go_wp2_with fail
  refine (bytes17 id st pr a0 a1 a2 a4 a5 a6 a7 nk.length nl.length nr.length lk.length il.length sl.length c0 c1 c2 c4 c5 c6 c7 Ls w x0 x1 x2 x4 x6 x7 x5 H5.out XM.out).mono ?_
  rintro e w' ⟨⟨b, rfl, hb⟩, hw⟩
  subst w'
  have HBY := hide hb
  clear hb
  cases b
  · clear neq neq2
    go_wp2_with fail
    go_ret
    exact ⟨rfl, Below.refl _ _⟩
  have x0' := x0
  have x1' := x1
  have x2' := x2
  have x4' := x4
  have x5' := x5
  have x6' := x6
  have x7' := x7
  unfold maxLen at x0' x1' x2' x4' x5' x6' x7'
  clear x0 x1 x2 x4 x5 x6 x7
  by_cases m0 : nk.length ≤ 8192
  case neg =>
    have g0 : decide ((8192 : Int) < (nk.length : Int)) = true := decide_eq_true (by omega)
    go_wp2_with fail
    go_ret
    exact ⟨rfl, Below.refl _ _⟩
  have g0 : decide ((8192 : Int) < (nk.length : Int)) = false := decide_eq_false (by omega)
  by_cases m1 : nl.length ≤ 8192
  case neg =>
    have g1 : decide ((8192 : Int) < (nl.length : Int)) = true := decide_eq_true (by omega)
    go_wp2_with fail
    go_ret
    exact ⟨rfl, Below.refl _ _⟩
  have g1 : decide ((8192 : Int) < (nl.length : Int)) = false := decide_eq_false (by omega)
  by_cases m2 : nr.length ≤ 8192
  case neg =>
    have g2 : decide ((8192 : Int) < (nr.length : Int)) = true := decide_eq_true (by omega)
    go_wp2_with fail
    go_ret
    exact ⟨rfl, Below.refl _ _⟩
  have g2 : decide ((8192 : Int) < (nr.length : Int)) = false := decide_eq_false (by omega)
  by_cases m3 : lk.length ≤ 4096
  case neg =>
    have g3 : decide ((4096 : Int) < (lk.length : Int)) = true := decide_eq_true (by omega)
    go_wp2_with fail
    go_ret
    exact ⟨rfl, Below.refl _ _⟩
  have g3 : decide ((4096 : Int) < (lk.length : Int)) = false := decide_eq_false (by omega)
  by_cases m4 : Ls.length ≤ 4096
  case neg =>
    have g4 : decide ((4096 : Int) < (Ls.length : Int)) = true := decide_eq_true (by omega)
    go_wp2_with fail
    go_ret
    exact ⟨rfl, Below.refl _ _⟩
  have g4 : decide ((4096 : Int) < (Ls.length : Int)) = false := decide_eq_false (by omega)
  by_cases m5 : il.length ≤ 8192
  case neg =>
    have g5 : decide ((8192 : Int) < (il.length : Int)) = true := decide_eq_true (by omega)
    go_wp2_with fail
    go_ret
    exact ⟨rfl, Below.refl _ _⟩
  have g5 : decide ((8192 : Int) < (il.length : Int)) = false := decide_eq_false (by omega)
  by_cases m6 : sl.length ≤ 8192
  case neg =>
    have g6 : decide ((8192 : Int) < (sl.length : Int)) = true := decide_eq_true (by omega)
    go_wp2_with fail
    go_ret
    exact ⟨rfl, Below.refl _ _⟩
  have g6 : decide ((8192 : Int) < (sl.length : Int)) = false := decide_eq_false (by omega)
  go_upto_if 110 with fail
  have rc0 := hide (H0.out.below belw.out)
  have mk0 := fun w => make32 nk.length (by omega) w
  refine wp_cut (fun a' w' => ∃ (v z : Value) (us : List Value), us.length = 342 ∧ CutK .i32 w w' nk v ∧ a' = Act.mk (List.toArray ((v : Value) :: (.slice a1 nl.length c1 : Value) :: (.slice a2 nr.length c2 : Value) :: (.int .i32 id : Value) :: (.slice a4 lk.length c4 : Value) :: (.slice a5 Ls.length c5 : Value) :: (.slice a6 il.length c6 : Value) :: (.slice a7 sl.length c7 : Value) :: (.int .i64 st : Value) :: (.int .i64 pr : Value) :: (undef : Value) :: (undef : Value) :: (undef : Value) :: (undef : Value) :: (undef : Value) :: (undef : Value) :: (undef : Value) :: (undef : Value) :: (undef : Value) :: (undef : Value) :: (.bool false : Value) :: (z : Value) :: (undef : Value) :: (undef : Value) :: (undef : Value) :: (undef : Value) :: (undef : Value) :: (undef : Value) :: (undef : Value) :: (undef : Value) :: (undef : Value) :: (undef : Value) :: (undef : Value) :: (undef : Value) :: (undef : Value) :: (undef : Value) :: (undef : Value) :: (undef : Value) :: (undef : Value) :: (undef : Value) :: (undef : Value) :: (undef : Value) :: (undef : Value) :: (undef : Value) :: (undef : Value) :: (undef : Value) :: (undef : Value) :: (undef : Value) :: (undef : Value) :: (undef : Value) :: (undef : Value) :: (undef : Value) :: (undef : Value) :: (undef : Value) :: (undef : Value) :: (undef : Value) :: (undef : Value) :: (undef : Value) :: (undef : Value) :: (undef : Value) :: (undef : Value) :: (undef : Value) :: (undef : Value) :: (undef : Value) :: us)) []) ?_ ?_
  rotate_left
  · intro J K' hJ hK'
    go_wp2_with (first | (refine copy_step rfl (.tmp 114) (.tmp 115) rfl nk nk.length rfl a0 c0 w.heap.size rfl rfl (heap_alloc_new w _) (rc0.out.below ((Below.refl _ _).alloc (Nat.le_refl _) _)) w.heap.size ((Below.refl w.heap.size w).alloc (Nat.le_refl _) _) (Nat.le_refl _) ?_; intro w2 hblk hb2))
    · refine Met.intro (hJ _ _ ⟨_, _, _, ?_, ?_, rfl⟩)
      · rfl
      · exact ⟨_, _, rfl, hblk.rd, hb2⟩
    · refine Met.intro (hJ _ _ ⟨_, _, _, ?_, ?_, rfl⟩)
      · rfl
      · exact ⟨_, _, rfl, rc0.out, Below.refl _ _⟩
  rintro _ w0x ⟨_, z21, us, hus, ⟨b0, e0, rfl, rd0, bc⟩, rfl⟩
  obtain ⟨u, rfl⟩ := spread us hus
  clear hus
  have belw0x := hide (belw.out.trans (bc.mono belw.out.size))
  have R0 := hide rd0
  clear rd0 bc rc0 mk0 belw H0
  go_upto_if 119 with fail
  have rc1 := hide (H1.out.below belw0x.out)
  have mk1 := fun w => make32 nl.length (by omega) w
  refine wp_cut (fun a' w' => ∃ (v z : Value) (us : List Value), us.length = 342 ∧ CutK .i32 w0x w' nl v ∧ a' = Act.mk (List.toArray ((.slice b0 nk.length e0 : Value) :: (v : Value) :: (.slice a2 nr.length c2 : Value) :: (.int .i32 id : Value) :: (.slice a4 lk.length c4 : Value) :: (.slice a5 Ls.length c5 : Value) :: (.slice a6 il.length c6 : Value) :: (.slice a7 sl.length c7 : Value) :: (.int .i64 st : Value) :: (.int .i64 pr : Value) :: (undef : Value) :: (undef : Value) :: (undef : Value) :: (undef : Value) :: (undef : Value) :: (undef : Value) :: (undef : Value) :: (undef : Value) :: (undef : Value) :: (undef : Value) :: (.bool false : Value) :: (z21 : Value) :: (z : Value) :: (undef : Value) :: (undef : Value) :: (undef : Value) :: (undef : Value) :: (undef : Value) :: (undef : Value) :: (undef : Value) :: (undef : Value) :: (undef : Value) :: (undef : Value) :: (undef : Value) :: (undef : Value) :: (undef : Value) :: (undef : Value) :: (undef : Value) :: (undef : Value) :: (undef : Value) :: (undef : Value) :: (undef : Value) :: (undef : Value) :: (undef : Value) :: (undef : Value) :: (undef : Value) :: (undef : Value) :: (undef : Value) :: (undef : Value) :: (undef : Value) :: (undef : Value) :: (undef : Value) :: (undef : Value) :: (undef : Value) :: (undef : Value) :: (undef : Value) :: (undef : Value) :: (undef : Value) :: (undef : Value) :: (undef : Value) :: (undef : Value) :: (undef : Value) :: (undef : Value) :: (undef : Value) :: us)) []) ?_ ?_
  rotate_left
  · intro J K' hJ hK'
    go_wp2_with (first | (refine copy_step rfl (.tmp 123) (.tmp 124) rfl nl nl.length rfl a1 c1 w0x.heap.size rfl rfl (heap_alloc_new w0x _) (rc1.out.below ((Below.refl _ _).alloc (Nat.le_refl _) _)) w0x.heap.size ((Below.refl w0x.heap.size w0x).alloc (Nat.le_refl _) _) (Nat.le_refl _) ?_; intro w2 hblk hb2))
    · refine Met.intro (hJ _ _ ⟨_, _, _, ?_, ?_, rfl⟩)
      · rfl
      · exact ⟨_, _, rfl, hblk.rd, hb2⟩
    · refine Met.intro (hJ _ _ ⟨_, _, _, ?_, ?_, rfl⟩)
      · rfl
      · exact ⟨_, _, rfl, rc1.out, Below.refl _ _⟩
  rintro _ w1x ⟨_, z22, us, hus, ⟨b1, e1, rfl, rd1, bc⟩, rfl⟩
  obtain ⟨u, rfl⟩ := spread us hus
  clear hus
  have belw1x := hide (belw0x.out.trans (bc.mono belw0x.out.size))
  have R1 := hide rd1
  replace R0 := hide (R0.out.below bc)
  clear rd1 bc rc1 mk1 belw0x H1
  go_upto_if 128 with fail
  have rc2 := hide (H2.out.below belw1x.out)
  have mk2 := fun w => make32 nr.length (by omega) w
  refine wp_cut (fun a' w' => ∃ (v z : Value) (us : List Value), us.length = 342 ∧ CutK .i32 w1x w' nr v ∧ a' = Act.mk (List.toArray ((.slice b0 nk.length e0 : Value) :: (.slice b1 nl.length e1 : Value) :: (v : Value) :: (.int .i32 id : Value) :: (.slice a4 lk.length c4 : Value) :: (.slice a5 Ls.length c5 : Value) :: (.slice a6 il.length c6 : Value) :: (.slice a7 sl.length c7 : Value) :: (.int .i64 st : Value) :: (.int .i64 pr : Value) :: (undef : Value) :: (undef : Value) :: (undef : Value) :: (undef : Value) :: (undef : Value) :: (undef : Value) :: (undef : Value) :: (undef : Value) :: (undef : Value) :: (undef : Value) :: (.bool false : Value) :: (z21 : Value) :: (z22 : Value) :: (z : Value) :: (undef : Value) :: (undef : Value) :: (undef : Value) :: (undef : Value) :: (undef : Value) :: (undef : Value) :: (undef : Value) :: (undef : Value) :: (undef : Value) :: (undef : Value) :: (undef : Value) :: (undef : Value) :: (undef : Value) :: (undef : Value) :: (undef : Value) :: (undef : Value) :: (undef : Value) :: (undef : Value) :: (undef : Value) :: (undef : Value) :: (undef : Value) :: (undef : Value) :: (undef : Value) :: (undef : Value) :: (undef : Value) :: (undef : Value) :: (undef : Value) :: (undef : Value) :: (undef : Value) :: (undef : Value) :: (undef : Value) :: (undef : Value) :: (undef : Value) :: (undef : Value) :: (undef : Value) :: (undef : Value) :: (undef : Value) :: (undef : Value) :: (undef : Value) :: (undef : Value) :: us)) []) ?_ ?_
  rotate_left
  · intro J K' hJ hK'
    go_wp2_with (first | (refine copy_step rfl (.tmp 132) (.tmp 133) rfl nr nr.length rfl a2 c2 w1x.heap.size rfl rfl (heap_alloc_new w1x _) (rc2.out.below ((Below.refl _ _).alloc (Nat.le_refl _) _)) w1x.heap.size ((Below.refl w1x.heap.size w1x).alloc (Nat.le_refl _) _) (Nat.le_refl _) ?_; intro w2 hblk hb2))
    · refine Met.intro (hJ _ _ ⟨_, _, _, ?_, ?_, rfl⟩)
      · rfl
      · exact ⟨_, _, rfl, hblk.rd, hb2⟩
    · refine Met.intro (hJ _ _ ⟨_, _, _, ?_, ?_, rfl⟩)
      · rfl
      · exact ⟨_, _, rfl, rc2.out, Below.refl _ _⟩
  rintro _ w2x ⟨_, z23, us, hus, ⟨b2, e2, rfl, rd2, bc⟩, rfl⟩
  obtain ⟨u, rfl⟩ := spread us hus
  clear hus
  have belw2x := hide (belw1x.out.trans (bc.mono belw1x.out.size))
  have R2 := hide rd2
  replace R0 := hide (R0.out.below bc)
  replace R1 := hide (R1.out.below bc)
  clear rd2 bc rc2 mk2 belw1x H2
  go_upto_if 137 with fail
  have rc4 := hide (H4.out.below belw2x.out)
  have mk4 := fun w => make32 lk.length (by omega) w
  refine wp_cut (fun a' w' => ∃ (v z : Value) (us : List Value), us.length = 342 ∧ CutK .i32 w2x w' lk v ∧ a' = Act.mk (List.toArray ((.slice b0 nk.length e0 : Value) :: (.slice b1 nl.length e1 : Value) :: (.slice b2 nr.length e2 : Value) :: (.int .i32 id : Value) :: (v : Value) :: (.slice a5 Ls.length c5 : Value) :: (.slice a6 il.length c6 : Value) :: (.slice a7 sl.length c7 : Value) :: (.int .i64 st : Value) :: (.int .i64 pr : Value) :: (undef : Value) :: (undef : Value) :: (undef : Value) :: (undef : Value) :: (undef : Value) :: (undef : Value) :: (undef : Value) :: (undef : Value) :: (undef : Value) :: (undef : Value) :: (.bool false : Value) :: (z21 : Value) :: (z22 : Value) :: (z23 : Value) :: (z : Value) :: (undef : Value) :: (undef : Value) :: (undef : Value) :: (undef : Value) :: (undef : Value) :: (undef : Value) :: (undef : Value) :: (undef : Value) :: (undef : Value) :: (undef : Value) :: (undef : Value) :: (undef : Value) :: (undef : Value) :: (undef : Value) :: (undef : Value) :: (undef : Value) :: (undef : Value) :: (undef : Value) :: (undef : Value) :: (undef : Value) :: (undef : Value) :: (undef : Value) :: (undef : Value) :: (undef : Value) :: (undef : Value) :: (undef : Value) :: (undef : Value) :: (undef : Value) :: (undef : Value) :: (undef : Value) :: (undef : Value) :: (undef : Value) :: (undef : Value) :: (undef : Value) :: (undef : Value) :: (undef : Value) :: (undef : Value) :: (undef : Value) :: (undef : Value) :: us)) []) ?_ ?_
  rotate_left
  · intro J K' hJ hK'
    go_wp2_with (first | (refine copy_step rfl (.tmp 141) (.tmp 142) rfl lk lk.length rfl a4 c4 w2x.heap.size rfl rfl (heap_alloc_new w2x _) (rc4.out.below ((Below.refl _ _).alloc (Nat.le_refl _) _)) w2x.heap.size ((Below.refl w2x.heap.size w2x).alloc (Nat.le_refl _) _) (Nat.le_refl _) ?_; intro w2 hblk hb2))
    · refine Met.intro (hJ _ _ ⟨_, _, _, ?_, ?_, rfl⟩)
      · rfl
      · exact ⟨_, _, rfl, hblk.rd, hb2⟩
    · refine Met.intro (hJ _ _ ⟨_, _, _, ?_, ?_, rfl⟩)
      · rfl
      · exact ⟨_, _, rfl, rc4.out, Below.refl _ _⟩
  rintro _ w4x ⟨_, z24, us, hus, ⟨b4, e4, rfl, rd4, bc⟩, rfl⟩
  obtain ⟨u, rfl⟩ := spread us hus
  clear hus
  have belw4x := hide (belw2x.out.trans (bc.mono belw2x.out.size))
  have R4 := hide rd4
  replace R0 := hide (R0.out.below bc)
  replace R1 := hide (R1.out.below bc)
  replace R2 := hide (R2.out.below bc)
  clear rd4 bc rc4 mk4 belw2x H4
  go_upto_if 146 with fail
  have rc6 := hide (H6.out.below belw4x.out)
  have mk6 := fun w => make64 il.length (by omega) w
  refine wp_cut (fun a' w' => ∃ (v z : Value) (us : List Value), us.length = 342 ∧ CutK .i64 w4x w' il v ∧ a' = Act.mk (List.toArray ((.slice b0 nk.length e0 : Value) :: (.slice b1 nl.length e1 : Value) :: (.slice b2 nr.length e2 : Value) :: (.int .i32 id : Value) :: (.slice b4 lk.length e4 : Value) :: (.slice a5 Ls.length c5 : Value) :: (v : Value) :: (.slice a7 sl.length c7 : Value) :: (.int .i64 st : Value) :: (.int .i64 pr : Value) :: (undef : Value) :: (undef : Value) :: (undef : Value) :: (undef : Value) :: (undef : Value) :: (undef : Value) :: (undef : Value) :: (undef : Value) :: (undef : Value) :: (undef : Value) :: (.bool false : Value) :: (z21 : Value) :: (z22 : Value) :: (z23 : Value) :: (z24 : Value) :: (z : Value) :: (undef : Value) :: (undef : Value) :: (undef : Value) :: (undef : Value) :: (undef : Value) :: (undef : Value) :: (undef : Value) :: (undef : Value) :: (undef : Value) :: (undef : Value) :: (undef : Value) :: (undef : Value) :: (undef : Value) :: (undef : Value) :: (undef : Value) :: (undef : Value) :: (undef : Value) :: (undef : Value) :: (undef : Value) :: (undef : Value) :: (undef : Value) :: (undef : Value) :: (undef : Value) :: (undef : Value) :: (undef : Value) :: (undef : Value) :: (undef : Value) :: (undef : Value) :: (undef : Value) :: (undef : Value) :: (undef : Value) :: (undef : Value) :: (undef : Value) :: (undef : Value) :: (undef : Value) :: (undef : Value) :: (undef : Value) :: (undef : Value) :: us)) []) ?_ ?_
  rotate_left
  · intro J K' hJ hK'
    go_wp2_with (first | (refine copy_step64 rfl (.tmp 150) (.tmp 151) rfl il il.length rfl a6 c6 w4x.heap.size rfl rfl (heap_alloc_new w4x _) (rc6.out.below ((Below.refl _ _).alloc (Nat.le_refl _) _)) w4x.heap.size ((Below.refl w4x.heap.size w4x).alloc (Nat.le_refl _) _) (Nat.le_refl _) ?_; intro w2 hblk hb2))
    · refine Met.intro (hJ _ _ ⟨_, _, _, ?_, ?_, rfl⟩)
      · rfl
      · exact ⟨_, _, rfl, hblk.rd, hb2⟩
    · refine Met.intro (hJ _ _ ⟨_, _, _, ?_, ?_, rfl⟩)
      · rfl
      · exact ⟨_, _, rfl, rc6.out, Below.refl _ _⟩
  rintro _ w6x ⟨_, z25, us, hus, ⟨b6, e6, rfl, rd6, bc⟩, rfl⟩
  obtain ⟨u, rfl⟩ := spread us hus
  clear hus
  have belw6x := hide (belw4x.out.trans (bc.mono belw4x.out.size))
  have R6 := hide rd6
  replace R0 := hide (R0.out.below bc)
  replace R1 := hide (R1.out.below bc)
  replace R2 := hide (R2.out.below bc)
  replace R4 := hide (R4.out.below bc)
  clear rd6 bc rc6 mk6 belw4x H6
  go_upto_if 155 with fail
  have rc7 := hide (H7.out.below belw6x.out)
  have mk7 := fun w => make32 sl.length (by omega) w
  refine wp_cut (fun a' w' => ∃ (v z : Value) (us : List Value), us.length = 342 ∧ CutK .i32 w6x w' sl v ∧ a' = Act.mk (List.toArray ((.slice b0 nk.length e0 : Value) :: (.slice b1 nl.length e1 : Value) :: (.slice b2 nr.length e2 : Value) :: (.int .i32 id : Value) :: (.slice b4 lk.length e4 : Value) :: (.slice a5 Ls.length c5 : Value) :: (.slice b6 il.length e6 : Value) :: (v : Value) :: (.int .i64 st : Value) :: (.int .i64 pr : Value) :: (undef : Value) :: (undef : Value) :: (undef : Value) :: (undef : Value) :: (undef : Value) :: (undef : Value) :: (undef : Value) :: (undef : Value) :: (undef : Value) :: (undef : Value) :: (.bool false : Value) :: (z21 : Value) :: (z22 : Value) :: (z23 : Value) :: (z24 : Value) :: (z25 : Value) :: (z : Value) :: (undef : Value) :: (undef : Value) :: (undef : Value) :: (undef : Value) :: (undef : Value) :: (undef : Value) :: (undef : Value) :: (undef : Value) :: (undef : Value) :: (undef : Value) :: (undef : Value) :: (undef : Value) :: (undef : Value) :: (undef : Value) :: (undef : Value) :: (undef : Value) :: (undef : Value) :: (undef : Value) :: (undef : Value) :: (undef : Value) :: (undef : Value) :: (undef : Value) :: (undef : Value) :: (undef : Value) :: (undef : Value) :: (undef : Value) :: (undef : Value) :: (undef : Value) :: (undef : Value) :: (undef : Value) :: (undef : Value) :: (undef : Value) :: (undef : Value) :: (undef : Value) :: (undef : Value) :: (undef : Value) :: (undef : Value) :: us)) []) ?_ ?_
  rotate_left
  · intro J K' hJ hK'
    go_wp2_with (first | (refine copy_step rfl (.tmp 159) (.tmp 160) rfl sl sl.length rfl a7 c7 w6x.heap.size rfl rfl (heap_alloc_new w6x _) (rc7.out.below ((Below.refl _ _).alloc (Nat.le_refl _) _)) w6x.heap.size ((Below.refl w6x.heap.size w6x).alloc (Nat.le_refl _) _) (Nat.le_refl _) ?_; intro w2 hblk hb2))
    · refine Met.intro (hJ _ _ ⟨_, _, _, ?_, ?_, rfl⟩)
      · rfl
      · exact ⟨_, _, rfl, hblk.rd, hb2⟩
    · refine Met.intro (hJ _ _ ⟨_, _, _, ?_, ?_, rfl⟩)
      · rfl
      · exact ⟨_, _, rfl, rc7.out, Below.refl _ _⟩
  rintro _ w7x ⟨_, z26, us, hus, ⟨b7, e7, rfl, rd7, bc⟩, rfl⟩
  obtain ⟨u, rfl⟩ := spread us hus
  clear hus
  have belw7x := hide (belw6x.out.trans (bc.mono belw6x.out.size))
  have R7 := hide rd7
  replace R0 := hide (R0.out.below bc)
  replace R1 := hide (R1.out.below bc)
  replace R2 := hide (R2.out.below bc)
  replace R4 := hide (R4.out.below bc)
  replace R6 := hide (R6.out.below bc)
  clear rd7 bc rc7 mk7 belw6x H7
  clear neq neq2
  have R5 := hide (H5.out.below belw7x.out)
  have belB := belw7x
  clear H5 belw7x
  generalize w7x = w6 at *
  go_wp2_with fail
  go_loop [27, 28, 165] (fun s _ i => ∃ k : Nat, k ≤ Ls.length ∧ i = .int .i64 k ∧ s = .int .i64 (offs Ls k : Nat) ∧ offs Ls k ≤ 65536) (fun _ _ i => Ls.length - (intOf i).toNat)
  case atStart => exact ⟨0, Nat.zero_le _, rfl, rfl, by simp [offs]⟩
  case round =>
    obtain ⟨k, hk, rfl, rfl, hsm⟩ := hrel
    by_cases hlt : k < Ls.length
    · obtain ⟨b5, o5, ai, ci, rfl, q5, _⟩ := R5.out k hlt
      have hxm := HBY.out (by trivial) k hlt
      have HO := hide (offs_succ Ls k)
      generalize (Ls.getD k []).length = m at *
      generalize offs Ls k = s at *
      by_cases hbig : s + m ≤ 65536
      · have gb : decide ((65536 : Int) < (s : Int) + (m : Int)) = false := decide_eq_false (by omega)
        go_wp2_with fail
        go_round
        case rel => exact ⟨k + 1, by omega, by go_num, by rw [HO.out]; go_num, by rw [HO.out]; exact hbig⟩
        case measure => simp [intOf]; omega
      · have gb : decide ((65536 : Int) < (s : Int) + (m : Int)) = true := decide_eq_true (by omega)
        go_wp2_with fail
        go_ret
        exact ⟨rfl, belB.out⟩
    · obtain rfl : k = Ls.length := by omega
      go_wp2_with fail
      refine (dom_any b0 b1 b2 b4 a5 b6 b7 e0 e1 e2 e4 c5 e6 e7 nk nl nr lk Ls il sl w6 R0.out R1.out R2.out R4.out R5.out R6.out R7.out m0 m1 m2 m3 m4 m5 m6 hsm Y1.out Y2.out Y7.out).mono ?_
      rintro e w7 ⟨bel7, hpd⟩
      rcases hpd with rfl | ⟨bF, rfl, hD, hF1, hF2, hB⟩
      · go_wp2_with fail
        go_ret
        exact ⟨rfl, belB.out.trans (bel7.mono belB.out.size)⟩
      have BEL7 := hide (belB.out.trans (bel7.mono belB.out.size))
      replace R0 := hide (R0.out.below bel7)
      replace R1 := hide (R1.out.below bel7)
      replace R2 := hide (R2.out.below bel7)
      replace R4 := hide (R4.out.below bel7)
      replace R5 := hide (R5.out.below bel7)
      replace R6 := hide (R6.out.below bel7)
      replace R7 := hide (R7.out.below bel7)
      have HD := hide hD
      have HB := hide hB
      have hFl := done_length nk nl nr il sl lk Ls lk.length
      have hNle : offs Ls lk.length ≤ 65536 := by rw [← hD.l3]; exact hsm
      obtain ⟨fl, hfl⟩ : ∃ x, done nk nl nr il sl lk Ls lk.length = x := ⟨_, rfl⟩
      rw [hfl] at hFl HB
      have HFL := hide hfl
      obtain ⟨N, hN⟩ : ∃ x, offs Ls lk.length = x := ⟨_, rfl⟩
      rw [hN] at hFl hNle ⊢
      have HSM := hide hsm
      clear hD hB bel7 belB hfl hN hsm
      go_wp2_with fail
      go_loop [31, 32, 193] (fun t _ i => ∃ k : Nat, k ≤ N ∧ i = .int .i64 k ∧ t = .int .i64 (Trues (fl.take k) : Nat)) (fun _ _ i => N - (intOf i).toNat)
      case atStart => exact ⟨0, Nat.zero_le _, rfl, rfl⟩
      case round =>
        obtain ⟨k, hk, rfl, rfl⟩ := hrel
        by_cases hlt : k < N
        · obtain ⟨qf, _⟩ := HB.out k (by omega)
          have HT := hide (trues_succ fl k (by omega))
          have htl : Trues (fl.take k) ≤ k := trues_le fl k
          obtain ⟨f, hf⟩ : ∃ x, fl.getD k false = x := ⟨_, rfl⟩
          rw [hf] at qf HT
          generalize Trues (fl.take k) = t at *
          clear hf
          cases f
          · go_wp2_with fail
            go_round
            case rel => exact ⟨k + 1, by omega, by go_num, by rw [HT.out]; simp⟩
            case measure => simp [intOf]; omega
          · go_wp2_with fail
            go_round
            case rel => exact ⟨k + 1, by omega, by go_num, by rw [HT.out]; go_num⟩
            case measure => simp [intOf]; omega
        · obtain rfl : k = N := by omega
          rw [show fl.take k = fl by rw [← hFl]; exact List.take_length]
          have hTle : Trues fl ≤ k := by have := trues_le fl k; rw [show fl.take k = fl by rw [← hFl]; exact List.take_length] at this; exact this
          go_wp2_with fail
          refine (new_any' nk nl nr id lk Ls il sl st pr b0 b1 b2 b4 a5 b6 b7 e0 e1 e2 e4 c5 e6 e7 w7 R0.out R1.out R2.out R4.out R5.out R6.out R7.out m0 m3 m5 ⟨i1, i2⟩ Y4.out HD.out HSM.out).mono ?_
          rintro e w8 ⟨G, E, rk, rfl, bel8, hP, hFA, gb, gid, gnk, gnl, gnr, gil, gsl⟩
          subst gid gnk gnl gnr gil gsl
          have hG : Good G := ⟨HD.out.rise, HD.out.tree, HD.out.sets, m5, m0, i1, i2⟩
          have HG := hide hG
          have hlen := hFA.len
          have hsumT := sum_is_trues G E lk Ls hFA
          rw [HFL.out] at hsumT
          have hdd := done_done G E hP.up
          have hdl := done_le G E E.length
          have KEYS := hide hP.keys
          have BDS := hide hP.bd
          have SM := hide hP.sm
          have HFA := hide hFA
          have HP := hide hP
          clear hP hFA hG
          go_wp2_with fail
          refine (zprune_any G HG.out w8 E st pr rk HP.out).mono ?_
          rintro e w9 ⟨rfl, bel9, _, rk9, hP9⟩
          have HP9 := hide hP9
          obtain ⟨T, hT⟩ : ∃ T : Nat, Trues fl = T := ⟨_, rfl⟩
          have BEL9 := hide (BEL7.out.trans ((bel8.trans (bel9.mono (Nat.le_of_eq gb.symm))).mono BEL7.out.size))
          have HS9 := hide hP9.seen
          have R47 := hide R4.out
          have B79 := hide (bel8.trans (bel9.mono (Nat.le_of_eq gb.symm)))
          replace R4 := hide (R4.out.below B79.out)
          obtain ⟨D, hD⟩ : ∃ D, G.done E E.length = D := ⟨_, rfl⟩
          have HDE := hide hD
          rw [hD] at HP9 HS9 hdd hdl hsumT
          have HDD := hide hdd
          have HST := hide hsumT
          rw [hT] at HST hTle ⊢
          have hDl : D.length ≤ lk.length := by omega
          clear HP hD hdd hsumT bel8 bel9 hP9 hT
          go_wp2_with fail
          refine (locks_any G w9 D.length _ _ HS9.out.hL).mono ?_
          rintro e w' ⟨rfl, hw⟩
          subst w'
          obtain ⟨aK, haK⟩ : ∃ x, G.aK = x := ⟨_, rfl⟩
          have HAK := hide haK
          rw [haK]
          have g1 : decide ((lk.length : Int) < (D.length : Int)) = false := decide_eq_false (by omega)
          have mkA := fun w => make32 D.length (by omega) w
          clear haK
          have RK := HS9.out.hK
          rw [HAK.out] at RK
          have RK9 := hide RK
          clear RK R0 R1 R2 R5 R6 R7
          obtain ⟨L, hL⟩ : ∃ L, D.map (·.lock) = L := ⟨_, rfl⟩
          rw [hL] at RK9
          have hLl : L.length = D.length := by rw [← hL]; simp
          have HLL := hide hL
          clear hL
          go_wp2_with fail
          clear mkA
          go_loopw [37, 232] (fun _ iv wx => ∃ k : Nat, k ≤ D.length ∧ iv = .int .i64 k ∧ Below w9.heap.size w9 wx ∧ w9.heap.size + 1 ≤ wx.heap.size ∧ Vals wx w9.heap.size D.length (lF L k)) (fun _ iv _ => D.length - (intOf iv).toNat)
          case atStart => exact ⟨0, Nat.zero_le _, rfl, (Below.refl _ _).alloc (Nat.le_refl _) _, by simp, lF_start _ _ _⟩
          case round =>
            obtain ⟨k, hk, rfl, hbel, hsz, hv⟩ := hrel
            by_cases hlt : k < D.length
            · obtain ⟨bk, ok, rfl, qk⟩ := (RK9.out.below hbel) k (by omega)
              obtain ⟨qd, qf⟩ := hv k hlt
              have VS := hide (lF_set hv)
              obtain ⟨x, hx⟩ : ∃ x, L.getD k 0 = x := ⟨_, rfl⟩
              rw [hx] at qk VS
              generalize lF L k k = z at *
              clear hx hv
              go_wp2_with fail
              go_roundw
              case rel => exact ⟨k + 1, by omega, by go_num, hbel.setCell (Nat.le_refl _) _, by rw [size_set]; exact hsz, VS.out⟩
              case measure => simp [intOf]; omega
            · obtain rfl : k = D.length := by omega
              have BEL10 := hide hbel
              have V10 := hide hv
              have HSZ := hide hsz
              generalize wr = w10 at *
              clear hbel hv hsz
              have hL10 := (HS9.out.below BEL10.out).hL
              rw [HST.out] at hL10
              have HL10 := hide hL10
              clear hL10
              go_wp2_with fail
              refine (counts_any G w10 D.length T T HL10.out).mono ?_
              rintro e w' ⟨rfl, q, hw⟩
              have BEL11 : Hid (Below w10.heap.size w10 w') := by rw [hw]; exact below_drewN (Below.refl _ _) q
              clear hw
              generalize w' = w11 at *
              have B911 := hide (BEL10.out.trans (BEL11.out.mono BEL10.out.size))
              have hc23 := blen_any G w11 (D.map (kvOf G.id)) (HS9.out.below B911.out).s3 (HS9.out.below B911.out).hM
              rw [List.length_map] at hc23
              go_wp2_with fail
              refine hc23.mono ?_
              rintro e w' ⟨rfl, hw⟩
              subst w'
              clear hc23
              have mkB := fun w => makeB lk.length (by omega) w
              have mkQ := fun w => make64 lk.length (by omega) w
              go_wp2_with fail
              clear mkB mkQ
              go_loopw [47, 48, 49, 50, 262] (fun sv _ _ _ iv wx => ∃ k : Nat, k ≤ lk.length ∧ iv = .int .i64 k ∧ L4 w11 lk.length (fOf G E) (snapOf G E) k sv wx) (fun _ _ _ _ iv _ => lk.length - (intOf iv).toNat)
              case atStart => exact ⟨0, Nat.zero_le _, rfl, L4.start _ _ _ _ rfl⟩
              case round =>
                obtain ⟨k, hk, rfl, h4⟩ := hrel
                have B9r := hide (B911.out.trans (h4.bel.mono B911.out.size))
                by_cases hlt : k < lk.length
                · have hkE : k < E.length := by omega
                  obtain ⟨av, cv, hbeg, hz⟩ := beg_any (G := G) KEYS.out BDS.out hkE
                  have hseen : Seen G wr (G.done E E.length) := by rw [HDE.out]; exact HS9.out.below B9r.out
                  obtain ⟨hcall, hrd⟩ := hbeg wr hseen
                  have HBEG := hide hbeg
                  obtain ⟨b4', o4, rfl, q4⟩ := (R4.out.below B9r.out) k hlt
                  obtain ⟨x1, x2⟩ := Y4.out (lk.getD k 0) (getD_mem lk k hlt)
                  rw [HFA.out.lock k hkE] at hcall
                  obtain ⟨x, hx⟩ : ∃ x, lk.getD k 0 = x := ⟨_, rfl⟩
                  rw [hx] at q4 x1 x2 hcall
                  obtain ⟨m, hm⟩ : ∃ m, (fOf G E k).length = m := ⟨_, rfl⟩
                  obtain ⟨p, hp⟩ : ∃ p, has (fOf G E k) = p := ⟨_, rfl⟩
                  rw [hm, hp] at hcall
                  obtain ⟨aN, cN, rfl, hRS⟩ := rd_of_ownsRow h4.snap h4.size rfl
                  have hs1 := snap_le G E (k + 1)
                  have hss := SM.out
                  rw [snap_step hkE, List.length_append, hm] at hs1
                  obtain ⟨s, hs⟩ : ∃ s, (snapOf G E k).length = s := ⟨_, rfl⟩
                  rw [hs] at hs1
                  have gb : decide ((65536 : Int) < (s : Int) + (m : Int)) = false := decide_eq_false (by omega)
                  have hsm2 : s + m ≤ 65536 := by omega
                  obtain ⟨vP, fP⟩ := h4.pres k hlt
                  obtain ⟨uQ, vQ, fQ⟩ := h4.set1 hlt (.bool p)
                  have HW := hide (two_own (p := p) (m := m) h4)
                  have HB2 := hide (two_size (p := p) (m := m) h4)
                  have RD2 : Hid (Rd .i64 (two w11 wr k p m) av (fOf G E k)) := (hbeg _ (by rw [HDE.out]; exact HS9.out.below (B911.out.trans ((two_bel (p := p) (m := m) h4).mono B911.out.size)))).2
                  have STEP := hide (fun v' w' => L4.step (v' := v') (w' := w') h4 hp hm (snap_step hkE))
                  generalize pF (fOf G E) k k = zP at *
                  have HC := hide hcall
                  have HZ := hide hz
                  have HMM := hide hm
                  have VQ := hide vQ
                  have FQ := hide fQ
                  rw [hs] at HW STEP ⊢
                  clear hx hm hp hs hcall hz hbeg hrd hseen h4 hRS vQ fQ hs1 hss
                  go_wp2_with fail
                  refine (zkey_any G.id x wr i1 i2 x1 x2).mono ?_
                  rintro e w' ⟨rfl, hw⟩
                  subst w'
                  go_wp2_with fail
                  refine HC.out.mono ?_
                  rintro e w' ⟨rfl, hw⟩
                  subst w'
                  go_upto_region 70 with fail
                  have HT : Hid (two w11 wr k p m = (wr.setCell ⟨w11.heap.size, k, none⟩ (.bool p)).setCell ⟨w11.heap.size + 1, k, none⟩ (.int .i64 (m : Int))) := rfl
                  clear vP fP q4
                  have vQ := VQ.out
                  have fQ := FQ.out
                  clear VQ FQ
                  generalize (wr.setCell ⟨w11.heap.size, k, none⟩ (.bool p)) = W1 at *
                  go_upto_region 71 with fail
                  rw [← HT.out]
                  clear HT vQ fQ
                  generalize two w11 wr k p m = W2 at *
                  go_wp2_with (first | (at_builtin; refine append_rd64 rfl (.tmp 291) (.tmp 292) rfl (w11.heap.size + 2) _ s (snapOf G E k) rfl HW.out av m cv (fOf G E k) rfl HMM.out RD2.out HZ.out (by omega) (Below.refl (w11.heap.size + 2) W2) HB2.out ?_; intro v' w' own' bel' hB'))
                  go_roundw
                  case rel => exact ⟨k + 1, by omega, by go_num, STEP.out _ _ own' bel' hB'⟩
                  case measure => simp [intOf]; omega
                · obtain rfl : k = lk.length := by omega
                  obtain ⟨aN, cN, rfl, hRS⟩ := rd_of_ownsRow h4.snap h4.size rfl
                  have B912 := hide B9r.out
                  have HRS := hide hRS
                  have HPR := hide h4.pres
                  have HLE := hide h4.lens
                  have HSZ4 := hide h4.size
                  have B1112 := hide h4.bel
                  generalize wr = w12 at *
                  clear hRS h4
                  go_wp2_with fail
                  refine (prune2_any G HG.out w9 w12 D _ _ rk9 HP9.out B912.out HDD.out).mono ?_
                  rintro e w13 ⟨rfl, bel13, keep13, seen13⟩
                  have s11 := B911.out.size
                  have s1112 := B1112.out.size
                  have s10 := HSZ.out
                  have s1011 := BEL11.out.size
                  have s4 := HSZ4.out
                  have V13 := hide ((((V10.out.below BEL11.out (by omega)).below B1112.out (by omega))).same (keep13 w9.heap.size (Nat.le_refl _) (by omega)))
                  have P13 := hide (HPR.out.same (keep13 w11.heap.size (by omega) (by omega)))
                  have Q13 := hide (HLE.out.same (keep13 (w11.heap.size + 1) (by omega) (by omega)))
                  have S13 := hide (HRS.out w13 (fun b h1 h2 => keep13 b (by omega) h2))
                  have BEL13 := hide ((BEL9.out.trans (B912.out.mono BEL9.out.size)).trans (bel13.mono (by rw [gb]; exact BEL7.out.size)))
                  have R413 := hide (R47.out.below (B79.out.trans ((B912.out.mono B79.out.size).trans (bel13.mono (by rw [gb]; exact Nat.le_refl _)))))
                  have hL13 := seen13.hL
                  rw [HST.out] at hL13
                  have HL13 := hide hL13
                  have RK13 := seen13.hK
                  rw [HAK.out, HLL.out] at RK13
                  have RK := hide RK13
                  have SEEN := hide seen13
                  clear s11 s1112 s10 s1011 s4 V10 HPR HLE HRS bel13 keep13 seen13 hL13 RK13 RK9 R47 R4 HP9 B912 B911 B1112 BEL11 BEL10 BEL9 HL10 HS9 HSZ HSZ4 B9r
                  go_wp2_with fail
                  refine (locks_any G w13 D.length T T HL13.out).mono ?_
                  rintro e w' ⟨rfl, hw⟩
                  subst w'
                  rw [HAK.out]
                  go_wp2_with fail
                  go_loopw [52, 307] (fun _ iv wx => ∃ k : Nat, k ≤ D.length ∧ iv = .int .i64 k ∧ Below w13.heap.size w13 wx) (fun _ iv _ => D.length - (intOf iv).toNat)
                  case atStart => exact ⟨0, Nat.zero_le _, rfl, Below.refl _ _⟩
                  case round =>
                    obtain ⟨k, hk, rfl, hbel⟩ := hrel
                    by_cases hlt : k < D.length
                    · obtain ⟨bk, ok, rfl, qk⟩ := (RK.out.below hbel) k (by omega)
                      have qv := lF_at V13.out k hlt
                      have qv' := Below.seen hbel (cell_lt qv) qv
                      obtain ⟨x, hx⟩ : ∃ x, L.getD k 0 = x := ⟨_, rfl⟩
                      rw [hx] at qk qv'
                      have HBEL := hide hbel
                      clear hx qv hbel
                      go_upto_region 80 with fail
                      go_quiet (fail)
                      go_wp2_with fail
                      go_roundw
                      case rel => exact ⟨k + 1, by omega, by go_num, below_drewN HBEL.out _⟩
                      case measure => simp [intOf]; omega
                    · obtain rfl : k = D.length := by omega
                      have B1314 := hide hbel
                      generalize wr = w14 at *
                      clear hbel
                      have hL14 := (SEEN.out.below B1314.out).hL
                      rw [HST.out] at hL14
                      have HL14 := hide hL14
                      clear hL14
                      go_wp2_with fail
                      refine (counts_any G w14 D.length T T HL14.out).mono ?_
                      rintro e w' ⟨rfl, q, hw⟩
                      have B1415 : Hid (Below w14.heap.size w14 w') := by rw [hw]; exact below_drewN (Below.refl _ _) q
                      clear hw
                      generalize w' = w15 at *
                      have B1315 := hide (B1314.out.trans (B1415.out.mono B1314.out.size))
                      have hc23 := blen_any G w15 (D.map (kvOf G.id)) (SEEN.out.below B1315.out).s3 (SEEN.out.below B1315.out).hM
                      rw [List.length_map] at hc23
                      have gT : ((T : Int) != (T : Int)) = false := by simp
                      go_wp2_with (first | (go_at_call 23; refine hc23.mono ?_; rintro e w' ⟨rfl, hw⟩; subst w'))
                      clear hc23
                      go_loopw [59, 60, 61, 62, 63, 345] (fun ov _ _ _ _ iv wx => ∃ k : Nat, k ≤ lk.length ∧ iv = .int .i64 k ∧ ov = .int .i64 ((snapOf G E k).length : Nat) ∧ Below w15.heap.size w15 wx) (fun _ _ _ _ _ iv _ => lk.length - (intOf iv).toNat)
                      case atStart => exact ⟨0, Nat.zero_le _, rfl, rfl, Below.refl _ _⟩
                      case round =>
                        obtain ⟨k, hk, rfl, rfl, hbel⟩ := hrel
                        have B13r := hide (B1315.out.trans (hbel.mono B1315.out.size))
                        by_cases hlt : k < lk.length
                        · have hkE : k < E.length := by omega
                          obtain ⟨av, cv, hbeg, hz⟩ := beg_any (G := G) KEYS.out BDS.out hkE
                          have hseen : Seen G wr (G.done E E.length) := by rw [HDE.out]; exact SEEN.out.below B13r.out
                          obtain ⟨hcall, hrd⟩ := hbeg wr hseen
                          obtain ⟨b4', o4, rfl, q4⟩ := (R413.out.below B13r.out) k hlt
                          obtain ⟨x1, x2⟩ := Y4.out (lk.getD k 0) (getD_mem lk k hlt)
                          rw [HFA.out.lock k hkE] at hcall
                          obtain ⟨x, hx⟩ : ∃ x, lk.getD k 0 = x := ⟨_, rfl⟩
                          rw [hx] at q4 x1 x2 hcall
                          have vP0 := pF_at P13.out k hlt
                          have vQ0 := qF_at Q13.out k hlt
                          have vP := Below.seen B13r.out (cell_lt vP0) vP0
                          have vQ := Below.seen B13r.out (cell_lt vQ0) vQ0
                          have hs1 := snap_le G E (k + 1)
                          have hss := SM.out
                          have SG := hide (fun j hj => snap_get (G := G) (E := E) (k := k) (j := j) hkE hj)
                          have SS := hide (show (snapOf G E (k + 1)).length = (snapOf G E k).length + (fOf G E k).length by rw [snap_step hkE, List.length_append])
                          obtain ⟨m, hm⟩ : ∃ m, (fOf G E k).length = m := ⟨_, rfl⟩
                          obtain ⟨p, hp⟩ : ∃ p, has (fOf G E k) = p := ⟨_, rfl⟩
                          rw [hm] at vQ hcall SG SS
                          rw [hp] at vP hcall
                          rw [snap_step hkE, List.length_append, hm] at hs1
                          obtain ⟨s, hs⟩ : ∃ s, (snapOf G E k).length = s := ⟨_, rfl⟩
                          rw [hs] at hs1 SG SS ⊢
                          have hsm2 : s + m ≤ 65536 := by omega
                          have HC := hide hcall
                          have HRD := hide hrd
                          have HBEL := hide hbel
                          have HMM := hide hm
                          have VQ0 := hide vQ
                          clear hx hm hp hs hcall hrd hz hbeg hseen vP0 vQ0 hs1 hss hbel
                          go_wp2_with fail
                          refine (zkey_any G.id x wr i1 i2 x1 x2).mono ?_
                          rintro e w' ⟨rfl, hw⟩
                          subst w'
                          go_wp2_with fail
                          refine HC.out.mono ?_
                          rintro e w' ⟨rfl, hw⟩
                          subst w'
                          have gp : (p != p) = false := by simp
                          have gm : ((m : Int) != (m : Int)) = false := by simp
                          go_wp2_with fail
                          clear vP q4 gp gm
                          generalize wr = wo at *
                          go_loopw [63, 376] (fun _ jv wx => ∃ j : Nat, j ≤ m ∧ jv = .int .i64 j ∧ Below wo.heap.size wo wx) (fun _ jv _ => m - (intOf jv).toNat)
                          case atStart => exact ⟨0, Nat.zero_le _, rfl, Below.refl _ _⟩
                          case round =>
                            obtain ⟨j, hj, rfl, hbel⟩ := hrel
                            clear vQ
                            by_cases hlt2 : j < m
                            · obtain ⟨bv, ov, rfl, qv⟩ := (HRD.out.below hbel) j (by rw [HMM.out]; exact hlt2)
                              obtain ⟨g1', g2'⟩ := SG.out j hlt2
                              have B13b := B13r.out.trans (hbel.mono B13r.out.size)
                              rw [← hlen] at S13
                              obtain ⟨bn, on, rfl, qn⟩ := (S13.out.below B13b) (s + j) g2'
                              rw [g1'] at qn
                              obtain ⟨y, hy⟩ : ∃ y, (fOf G E k).getD j 0 = y := ⟨_, rfl⟩
                              rw [hy] at qv qn
                              have HBJ := hide hbel
                              have wj : IntKind.i64.wrap ((s : Int) + (j : Int)) = (s : Int) + (j : Int) := by rw [IntKind.wrap_i64]; omega
                              have pj : (0 : Int) ≤ (s : Int) + (j : Int) := by omega
                              have tj : ((s : Int) + (j : Int)).toNat = s + j := by omega
                              have lj : (s : Int) + (j : Int) < ((snapOf G E lk.length).length : Int) := by rw [← hlen]; omega
                              have lj' : s + j < (snapOf G E lk.length).length := by rw [← hlen]; omega
                              clear hy g1' g2' hbel B13b
                              go_upto_region 96 with fail
                              go_quiet (fail)
                              go_wp2_with fail
                              go_roundw
                              case rel => exact ⟨j + 1, by omega, by go_num, below_drewN HBJ.out _⟩
                              case measure => simp [intOf]; omega
                            · obtain rfl : j = m := by omega
                              have vQ := Below.seen hbel (cell_lt VQ0.out) VQ0.out
                              have HBJ := hide hbel
                              clear hbel
                              go_wp2_with fail
                              go_roundw
                              case rel => exact ⟨k + 1, by omega, by go_num, by rw [SS.out]; go_num, HBEL.out.trans (HBJ.out.mono HBEL.out.size)⟩
                              case measure => simp [intOf]; omega
                        · obtain rfl : k = lk.length := by omega
                          go_wp2_with fail
                          go_ret
                          exact ⟨rfl, BEL13.out.trans (B13r.out.mono BEL13.out.size)⟩
end Go.Proofs.Qxb6616202a.Prune
