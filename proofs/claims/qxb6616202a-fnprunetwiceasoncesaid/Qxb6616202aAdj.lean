import Derived.Test.Qxb6616202aRows
import Derived.Test.Qxb6616202aKit
import Derived.Test.Qxb6616202aMath
import Derived.Deep.QuietTactic
import Derived.BigQuiet
import Derived.BigRegion
import Derived.Deep.CutRange
import Derived.Deep.DeepCutAuto
namespace Go.Proofs.Qxb6616202a.Flow
open Go.RowKit Go.Proofs.Qxb6616202a.Kit Go.Proofs.Qxb6616202a.FM
set_option linter.unusedVariables false
set_option linter.unusedSimpArgs false

theorem Try.info21 : (Try.prog.info? 21).map (fun i => (i.zero, i.size, i.bytes)) = some (some (.int .i32 0), 1, 4) := by kernel_rfl

theorem make32 (c : Nat) (hc : c ≤ 1000000) (w : World) :
    (Instr.makeSlice 31 (.int .i64 (c : Int)) (.int .i64 (c : Int))).run Try.prog w = .ok (.slice (some ⟨w.heap.size, 0, none⟩) c c) (w.alloc (.cells (zrow c) 21)) := by
  obtain ⟨i0, hi, hz0, hz1, hz2⟩ := info_parts Try.info21
  have h := run_make (P := Try.prog) w 31 21 i0 (.int .i32 0) Try.underlying31 hi hz0 .i64 .i64 c c (by omega) (by omega) (by rw [hz2]; omega) (by omega)
  rw [hz1, Nat.mul_one, Int.toNat_natCast, made_zero] at h
  exact h


/-- newAdjacency, on its way: the block of 'from', of 'to', of the local struct; nothing older has turned. -/
structure AdjSt (w wr : World) (bF bT bA n m : Nat) (F T : List Int) : Prop where
  below : Below w.heap.size w wr
  res : wr.heap[w.heap.size]? = some (.cells #[.slice none 0 0, .slice none 0 0] 83 (0, 0))
  hA : wr.heap[bA]? = some (.cells #[.slice (some ⟨bF, 0, none⟩) (n + 1) (n + 1), .slice (some ⟨bT, 0, none⟩) m m] 83 (0, 0))
  hF : Own .i32 wr bF F
  hT : Own .i32 wr bT T
  gF : w.heap.size < bF
  gT : w.heap.size < bT
  gA : w.heap.size < bA
  nFT : bF ≠ bT
  nFA : bF ≠ bA
  nTA : bT ≠ bA
  lF : bF < wr.heap.size
  lT : bT < wr.heap.size
  lA : bA < wr.heap.size

theorem AdjSt.fld0 {w wr : World} {bF bT bA n m : Nat} {F T : List Int} (h : AdjSt w wr bF bT bA n m F T) : wr.cell? ⟨bA, 0, none⟩ = some (.slice (some ⟨bF, 0, none⟩) (n + 1) (n + 1)) := by
  rw [cell_of_row wr bA 0 _ 83 _ h.hA]; rfl
theorem AdjSt.fld1 {w wr : World} {bF bT bA n m : Nat} {F T : List Int} (h : AdjSt w wr bF bT bA n m F T) : wr.cell? ⟨bA, 1, none⟩ = some (.slice (some ⟨bT, 0, none⟩) m m) := by
  rw [cell_of_row wr bA 1 _ 83 _ h.hA]; rfl
theorem AdjSt.rd {w wr : World} {bF bT bA n m : Nat} {F T : List Int} (h : AdjSt w wr bF bT bA n m F T) {a : Option Addr} {xs : List Int} (hr : Rd .i32 w a xs) : Rd .i32 wr a xs := hr.below h.below
theorem AdjSt.setF {w wr : World} {bF bT bA n m : Nat} {F T : List Int} (h : AdjSt w wr bF bT bA n m F T) (i : Nat) (v : Int) (hi : i < F.length) : AdjSt w (wr.setCell ⟨bF, i, none⟩ (.int .i32 v)) bF bT bA n m (F.set i v) T :=
  ⟨h.below.setCell (by exact Nat.le_of_lt h.gF) _, by rw [heap_set_other (by exact Nat.ne_of_lt h.gF)]; exact h.res, by rw [heap_set_other (by exact h.nFA.symm)]; exact h.hA, h.hF.set i v hi, h.hT.other _ (by exact h.nFT.symm), h.gF, h.gT, h.gA, h.nFT, h.nFA, h.nTA,
    by simpa [World.setCell] using h.lF, by simpa [World.setCell] using h.lT, by simpa [World.setCell] using h.lA⟩
theorem AdjSt.setT {w wr : World} {bF bT bA n m : Nat} {F T : List Int} (h : AdjSt w wr bF bT bA n m F T) (i : Nat) (v : Int) (hi : i < T.length) : AdjSt w (wr.setCell ⟨bT, i, none⟩ (.int .i32 v)) bF bT bA n m F (T.set i v) :=
  ⟨h.below.setCell (by exact Nat.le_of_lt h.gT) _, by rw [heap_set_other (by exact Nat.ne_of_lt h.gT)]; exact h.res, by rw [heap_set_other (by exact h.nTA.symm)]; exact h.hA, h.hF.other _ (by exact h.nFT), h.hT.set i v hi, h.gF, h.gT, h.gA, h.nFT, h.nFA, h.nTA,
    by simpa [World.setCell] using h.lF, by simpa [World.setCell] using h.lT, by simpa [World.setCell] using h.lA⟩
/-- A store into another block of the call's own. -/
theorem AdjSt.setO {w wr : World} {bF bT bA n m : Nat} {F T : List Int} (h : AdjSt w wr bF bT bA n m F T) (b i : Nat) (v : Value) (g : w.heap.size < b) (e1 : bF ≠ b) (e2 : bT ≠ b) (e3 : bA ≠ b) : AdjSt w (wr.setCell ⟨b, i, none⟩ v) bF bT bA n m F T :=
  ⟨h.below.setCell (by exact Nat.le_of_lt g) _, by rw [heap_set_other (by exact Nat.ne_of_lt g)]; exact h.res, by rw [heap_set_other (by exact e3)]; exact h.hA, h.hF.other _ (by exact e1), h.hT.other _ (by exact e2), h.gF, h.gT, h.gA, h.nFT, h.nFA, h.nTA,
    by simpa [World.setCell] using h.lF, by simpa [World.setCell] using h.lT, by simpa [World.setCell] using h.lA⟩
theorem AdjSt.drew {w wr : World} {bF bT bA n m : Nat} {F T : List Int} (h : AdjSt w wr bF bT bA n m F T) : AdjSt w wr.drew bF bT bA n m F T :=
  ⟨h.below.drew, h.res, h.hA, h.hF, h.hT, h.gF, h.gT, h.gA, h.nFT, h.nFA, h.nTA, h.lF, h.lT, h.lA⟩

theorem AdjSt.grown {w wr w1 : World} {bF bT bA n m : Nat} {F T : List Int} (h : AdjSt w wr bF bT bA n m F T) (hg : wr.grownBy w1 none) : AdjSt w w1 bF bT bA n m F T := by
  have hb : ∀ b, b < wr.heap.size → w1.heap[b]? = wr.heap[b]? := fun b hb => hg.block b hb (by simp)
  have hs := hg.size
  have h0 := h.below.size
  exact ⟨h.below.grown hg h0 (fun k hk => by cases hk), (hb _ (Nat.lt_trans h.gF h.lF)).trans h.res, (hb _ h.lA).trans h.hA, h.hF.same (hb _ h.lF), h.hT.same (hb _ h.lT), h.gF, h.gT, h.gA, h.nFT, h.nFA, h.nTA, Nat.lt_of_lt_of_le h.lF hs, Nat.lt_of_lt_of_le h.lT hs, Nat.lt_of_lt_of_le h.lA hs⟩

def St1 (w wr : World) (n : Nat) (xs : List Int) (v : Value) : Prop :=
  ∃ bF bT bA F T, v = .pointer (some ⟨bA, 0, none⟩) ∧ AdjSt w wr bF bT bA n xs.length F T ∧ F = List.replicate (n + 1) 0 ∧ T = List.replicate xs.length 0

theorem st1_of {w wr : World} {n bF bT bA : Nat} {xs : List Int} (hb : Below w.heap.size w wr) (res : wr.heap[w.heap.size]? = some (.cells #[.slice none 0 0, .slice none 0 0] 83 (0, 0)))
    (hF : wr.heap[bF]? = some (.cells (zrow (n + 1)) 21 (0, 0))) (hT : wr.heap[bT]? = some (.cells (zrow xs.length) 21 (0, 0)))
    (hA : wr.heap[bA]? = some (.cells #[.slice (some ⟨bF, 0, none⟩) (n + 1) (n + 1), .slice (some ⟨bT, 0, none⟩) xs.length xs.length] 83 (0, 0)))
    (hd : w.heap.size < bF ∧ w.heap.size < bT ∧ w.heap.size < bA ∧ bF ≠ bT ∧ bF ≠ bA ∧ bT ≠ bA) : St1 w wr n xs (.pointer (some ⟨bA, 0, none⟩)) :=
  ⟨bF, bT, bA, _, _, rfl, ⟨hb, res, hA, Blk.own (t := 21) hF, Blk.own (t := 21) hT, hd.1, hd.2.1, hd.2.2.1, hd.2.2.2.1, hd.2.2.2.2.1, hd.2.2.2.2.2,
    (Array.getElem?_eq_some_iff.1 hF).1, (Array.getElem?_eq_some_iff.1 hT).1, (Array.getElem?_eq_some_iff.1 hA).1⟩, rfl, rfl⟩
theorem heap4 (w : World) (R X Y Z : Obj) : Below w.heap.size w ((((w.alloc R).alloc X).alloc Y).alloc Z).drew ∧ ((((w.alloc R).alloc X).alloc Y).alloc Z).drew.heap[w.heap.size]? = some R ∧
    ((((w.alloc R).alloc X).alloc Y).alloc Z).drew.heap[w.heap.size + 1]? = some X ∧ ((((w.alloc R).alloc X).alloc Y).alloc Z).drew.heap[w.heap.size + 1 + 1]? = some Y ∧ ((((w.alloc R).alloc X).alloc Y).alloc Z).drew.heap[w.heap.size + 1 + 1 + 1]? = some Z := by
  refine ⟨(((((Below.refl _ _).alloc (Nat.le_refl _) _).alloc (by simp) _).alloc (by simp; omega) _).alloc (by simp; omega) _).drew, ?_, ?_, ?_, ?_⟩ <;>
    (show ((((w.heap.push R).push X).push Y).push Z)[_]? = _
     simp only [Array.getElem?_push, Array.size_push]
     repeat (first | rw [if_pos trivial] | rw [if_pos (by omega)] | rw [if_neg (by omega)]))

def PAdj (n : Nat) (xs ys : List Int) (w : World) (e : Ending) (w' : World) : Prop :=
  ∃ bF bT F T, e = .returned (.agg #[.slice (some ⟨bF, 0, none⟩) (n + 1) (n + 1), .slice (some ⟨bT, 0, none⟩) xs.length xs.length]) ∧ Own .i32 w' bF F ∧ IsF xs n F ∧ Own .i32 w' bT T ∧ IsT xs ys T ∧
    Below w.heap.size w w' ∧ w.heap.size ≤ bF ∧ bF < w'.heap.size ∧ w.heap.size ≤ bT ∧ bT < w'.heap.size

set_option maxHeartbeats 400000 in
theorem adj_any (n : Nat) (a1 a2 : Option Addr) (c1 c2 : Nat) (xs ys : List Int) (w : World) (hl : ys.length = xs.length) (hn : n ≤ 65536) (hm : xs.length ≤ 65537)
    (h1 : Rd .i32 w a1 xs) (h2 : Rd .i32 w a2 ys) (b1 : ∀ j, j < xs.length → 0 ≤ xs.getD j 0 ∧ xs.getD j 0 < n) :
    Calls Try.prog 33 #[.int .i64 n, .slice a1 xs.length c1, .slice a2 ys.length c2] w (PAdj n xs ys w) := by
  have HL := hide hl
  rw [hl]
  clear hl
  have mk1 : ∀ w, (Instr.makeSlice 31 (.int .i64 ((n : Int) + 1)) (.int .i64 ((n : Int) + 1))).run Try.prog w = .ok (.slice (some ⟨w.heap.size, 0, none⟩) (n + 1) (n + 1)) (w.alloc (.cells (zrow (n + 1)) 21)) := fun w => make32 (n + 1) (by omega) w
  have mk2 : ∀ w, (Instr.makeSlice 31 (.int .i64 (xs.length : Int)) (.int .i64 (xs.length : Int))).run Try.prog w = .ok (.slice (some ⟨w.heap.size, 0, none⟩) xs.length xs.length) (w.alloc (.cells (zrow xs.length) 21)) := fun w => make32 _ (by omega) w
  obtain ⟨i0, hi, hz0, hz1, hz2⟩ := info_parts Try.info21
  have H1 := hide h1
  have H2 := hide h2
  have B1 := hide b1
  clear h1 h2 b1
  go_enter Try.func33, Try.ntmps33
  go_upto_region 1 with fail
  go_cut [7] from 14 (fun v wx => St1 w wx n xs v)
  case first =>
    go_region
    all_goals
      go_wp2_with fail
      go_meet
      case rel =>
        have h4 := heap4 w
        first
          | exact st1_of (h4 _ _ _ _).1 (h4 _ _ _ _).2.1 (h4 _ _ _ _).2.2.1 (h4 _ _ _ _).2.2.2.1 (h4 _ _ _ _).2.2.2.2 (by omega)
          | exact st1_of (h4 _ _ _ _).1 (h4 _ _ _ _).2.1 (h4 _ _ _ _).2.2.1 (h4 _ _ _ _).2.2.2.2 (h4 _ _ _ _).2.2.2.1 (by omega)
          | exact st1_of (h4 _ _ _ _).1 (h4 _ _ _ _).2.1 (h4 _ _ _ _).2.2.2.1 (h4 _ _ _ _).2.2.1 (h4 _ _ _ _).2.2.2.2 (by omega)
          | exact st1_of (h4 _ _ _ _).1 (h4 _ _ _ _).2.1 (h4 _ _ _ _).2.2.2.1 (h4 _ _ _ _).2.2.2.2 (h4 _ _ _ _).2.2.1 (by omega)
          | exact st1_of (h4 _ _ _ _).1 (h4 _ _ _ _).2.1 (h4 _ _ _ _).2.2.2.2 (h4 _ _ _ _).2.2.1 (h4 _ _ _ _).2.2.2.1 (by omega)
          | exact st1_of (h4 _ _ _ _).1 (h4 _ _ _ _).2.1 (h4 _ _ _ _).2.2.2.2 (h4 _ _ _ _).2.2.2.1 (h4 _ _ _ _).2.2.1 (by omega)
  case rest =>
    clear mk1 mk2
    obtain ⟨bF, bT, bA, F0, T0, rfl, hst, HF0, HT0⟩ := hcut
    have f0 := F1_start xs n
    have t0 := T3_start xs ys
    rw [← HF0] at f0
    rw [← HT0] at t0
    clear HF0 HT0
    go_wp2_with fail
    go_loopw [23] (fun i wr => ∃ (k : Nat) (F : List Int), k ≤ xs.length ∧ i = .int .i64 k ∧ AdjSt w wr bF bT bA n xs.length F T0 ∧ F1 xs n k F) (fun i _ => xs.length - (intOf i).toNat)
    case atStart => exact ⟨0, F0, Nat.zero_le _, rfl, hst, f0⟩
    case round =>
      obtain ⟨k, F, hk, rfl, hS, hf⟩ := hrel
      clear hst f0 F0
      by_cases hlt : k < xs.length
      · obtain ⟨bx, ox, rfl, hx⟩ := hS.rd H1.out k hlt
        obtain ⟨x, hxe, hvn⟩ : ∃ x : Nat, xs.getD k 0 = x ∧ x < n := ⟨(xs.getD k 0).toNat, by have := B1.out k hlt; omega, by have := B1.out k hlt; omega⟩
        rw [hxe] at hx
        have hA0 := hS.fld0
        have hbd := F1_bd hf (x + 1) (by omega)
        have hc := hS.hF.cell (x + 1) (by rw [hf.1]; omega)
        have hz := hS.hF.froz (x + 1) (by rw [hf.1]; omega)
        obtain ⟨f, hfe⟩ : ∃ f, F.getD (x + 1) 0 = f := ⟨_, rfl⟩
        rw [hfe] at hc hbd
        obtain ⟨hb0, hb1⟩ := hbd
        have R1 := hide (hS.setF (x + 1) (f + 1) (by rw [hf.1]; omega))
        have R2 := F1_step hf hlt x hxe hvn
        rw [hfe] at R2
        have R2 := hide R2
        clear hxe hfe hf hS
        go_wp2
        go_roundw
        case rel => exact ⟨k + 1, _, by omega, by go_num, R1.out, R2.out⟩
        case measure => simp [intOf]; omega
      · obtain rfl : k = xs.length := by omega
        have f2 := F2_start hf fun j hj => (B1.out j hj).1
        clear hf
        go_wp2_with fail
        go_loopw [37] (fun i wr => ∃ (k : Nat) (F : List Int), k ≤ n ∧ i = .int .i64 k ∧ AdjSt w wr bF bT bA n xs.length F T0 ∧ F2 xs n k F) (fun i _ => n - (intOf i).toNat)
        case atStart => exact ⟨0, F, Nat.zero_le _, rfl, hS, f2⟩
        case round =>
          obtain ⟨k, F', hk, rfl, hS', hf⟩ := hrel
          clear hS f2 F
          by_cases hlt : k < n
          · have hA0 := hS'.fld0
            have hbd := F2_bd hf (k + 1) (by omega)
            have hbe := F2_bd hf k (by omega)
            have hc := hS'.hF.cell (k + 1) (by rw [hf.1]; omega)
            have hd := hS'.hF.cell k (by rw [hf.1]; omega)
            have hz := hS'.hF.froz (k + 1) (by rw [hf.1]; omega)
            obtain ⟨f, hfe⟩ : ∃ f, F'.getD (k + 1) 0 = f := ⟨_, rfl⟩
            obtain ⟨g, hge⟩ : ∃ g, F'.getD k 0 = g := ⟨_, rfl⟩
            have R1 := hide ((hS'.setF (k + 1) (f + g) (by rw [hf.1]; omega)).drew)
            have R2 := F2_step hf hlt
            rw [hfe, hge] at R2
            rw [hfe] at hc hbd
            rw [hge] at hd hbe
            obtain ⟨hb0, hb1⟩ := hbd
            obtain ⟨hb2, hb3⟩ := hbe
            have R2 := hide R2
            have hi1 : (k : Int) + 1 < (n : Int) + 1 := by omega
            have hi2 : (k : Int) < (n : Int) + 1 := by omega
            clear hfe hge hf hS'
            go_wp2
            go_region
            go_wp2
            go_roundw
            case rel => exact ⟨k + 1, _, by omega, by go_num, R1.out, R2.out⟩
            case measure => simp [intOf]; omega
          · obtain rfl : n = k := by omega
            have hF := F2_end hf
            clear hf
            have hA0 := hS'.fld0
            have hi1 : (n : Int) ≤ (n : Int) + 1 := by omega
            have hN3 := N3_start hF
            obtain ⟨N0, hN0⟩ : ∃ N0, F'.take n = N0 := ⟨_, rfl⟩
            have hnews := hS'.hF.news n
            rw [hN0] at hN3 hnews
            have HF := hide hF
            have hlenN : (N0.map (Value.int .i32)).length = n * 1 := by rw [List.length_map, hN3.1, Nat.mul_one]
            clear hN0 hF
            go_wp2_with (first | (at_builtin; refine wpList_append_own _ rfl _ _ 31 rfl wr.heap.size 21 i0 (.int .i32 0) 1 4 Try.underlying31 hi hz0 hz1 hz2 rfl (by decide) _ _ _ rfl (World.ownsRow_nil _ _ _ _) ⟨bF, 0, none⟩ n (n + 1) (N0.map (Value.int .i32)) rfl hlenN hnews (ints_one _ _) (by unfold maxLen; omega) (by omega) (Nat.le_refl _) ?_))
            intro v' w1 hown hgrow _
            obtain ⟨aN, bN, cN, rfl, haN, hON, hgN, hlN, hcN⟩ := own_of_ownsRow hown hgrow.size
            have hS1 := hS'.grown hgrow
            have gN : wr.heap.size ≤ bN := hgN
            have e1 : bF ≠ bN := by have := hS'.lF; omega
            have e2 : bT ≠ bN := by have := hS'.lT; omega
            have e3 : bA ≠ bN := by have := hS'.lA; omega
            have e4 : w.heap.size < bN := by have := hS'.lA; have := hS'.gA; omega
            have e5 : n ≤ cN := hcN
            clear hown hgrow hgN hlN hS' hnews hlenN hi1 hcN gN hA0
            go_wp2_with fail
            go_loopw [61] (fun i wr => ∃ (k : Nat) (N T : List Int), k ≤ xs.length ∧ i = .int .i64 k ∧ AdjSt w wr bF bT bA n xs.length F' T ∧ Own .i32 wr bN N ∧ N3 xs n k N ∧ T3 xs ys k T) (fun i _ => xs.length - (intOf i).toNat)
            case atStart => exact ⟨0, N0, T0, Nat.zero_le _, rfl, hS1, hON, hN3, t0⟩
            case round =>
              obtain ⟨k, N, T, hk, rfl, hS, hN, h3, ht⟩ := hrel
              clear hS1 hON hN3 t0
              by_cases hlt : k < xs.length
              · obtain ⟨bx, ox, rfl, hx⟩ := hS.rd H1.out k hlt
                obtain ⟨b_y, oy, rfl, hy⟩ := hS.rd H2.out k (by rw [HL.out]; exact hlt)
                obtain ⟨x, hxe, hvn⟩ : ∃ x : Nat, xs.getD k 0 = x ∧ x < n := ⟨(xs.getD k 0).toNat, by have := B1.out k hlt; omega, by have := B1.out k hlt; omega⟩
                rw [hxe] at hx
                obtain rfl := haN (by omega)
                have hA1 := hS.fld1
                have hpl := pos_len xs k hlt
                have hcN := hN.cell x (by rw [h3.1]; exact hvn)
                have hzN := hN.froz x (by rw [h3.1]; exact hvn)
                rw [N3_pos h3 x hxe hvn] at hcN
                have hcT := hS.hT.cell (pos xs k) (by rw [ht.1]; exact hpl)
                have hzT := hS.hT.froz (pos xs k) (by rw [ht.1]; exact hpl)
                have R1 := hide ((((hS.setT (pos xs k) (ys.getD k 0) (by rw [ht.1]; exact hpl)).setO bN x (.int .i32 ((pos xs k : Int) + 1)) e4 e1 e2 e3)).drew)
                have R2 := hide ((hN.other (a := ⟨bT, pos xs k, none⟩) (.int .i32 (ys.getD k 0)) (by exact e2.symm)).set x ((pos xs k : Int) + 1) (by rw [h3.1]; exact hvn))
                have R3 := N3_step h3 hlt x hxe hvn
                rw [N3_pos h3 x hxe hvn] at R3
                have R3 := hide R3
                have R4 := hide (T3_step ht hlt)
                obtain ⟨p, hp⟩ : ∃ p, pos xs k = p := ⟨_, rfl⟩
                obtain ⟨y, hye⟩ : ∃ y, ys.getD k 0 = y := ⟨_, rfl⟩
                rw [hp, hye] at R1 R2 R4
                rw [hp] at hpl hcN hcT hzT R3
                rw [hye] at hy
                have e2' : bN ≠ bT := e2.symm
                have hi1 : (p : Int) < (xs.length : Int) := by omega
                have hi2 : (x : Int) < (n : Int) := by omega
                have hi3 : (k : Int) < (xs.length : Int) := by omega
                obtain ⟨tv, htv⟩ : ∃ tv, T.getD p 0 = tv := ⟨_, rfl⟩
                rw [htv] at hcT
                clear hxe hp hye htv hS hN h3 ht
                go_wp2
                go_region
                all_goals
                  go_wp2
                  go_roundw
                  case rel => exact ⟨k + 1, _, _, by omega, by go_num, R1.out, R2.out, R3.out, R4.out⟩
                  case measure => simp [intOf]; omega
              · obtain rfl : k = xs.length := by omega
                have g0 := hS.fld0
                have g1 := hS.fld1
                have r0 : wr.cell? ⟨w.heap.size, 0, none⟩ = some (.slice none 0 0) := by rw [cell_of_row wr _ 0 _ 83 _ hS.res]; rfl
                have r1 : wr.cell? ⟨w.heap.size, 1, none⟩ = some (.slice none 0 0) := by rw [cell_of_row wr _ 1 _ 83 _ hS.res]; rfl
                have z0 : wr.frozen? ⟨w.heap.size, 0, none⟩ = false := by have := hS.res; simp [World.frozen?, this]
                have z1 : wr.frozen? ⟨w.heap.size, 1, none⟩ = false := by have := hS.res; simp [World.frozen?, this]
                have nb1 : bF ≠ w.heap.size := by have := hS.gF; omega
                have nb2 : bT ≠ w.heap.size := by have := hS.gT; omega
                go_wp2
                refine bodyPost_ret (v := .agg #[.slice (some ⟨bF, 0, none⟩) (n + 1) (n + 1), .slice (some ⟨bT, 0, none⟩) xs.length xs.length]) (by simp [results, Try.results33, go_sem, *]) rfl ?_
                exact ⟨bF, bT, F', T, rfl, (hS.hF.other _ nb1).other _ nb1, HF.out, (hS.hT.other _ nb2).other _ nb2, ht, (hS.below.setCell (Nat.le_refl _) _).setCell (Nat.le_refl _) _, Nat.le_of_lt hS.gF, by simpa [World.setCell] using hS.lF, Nat.le_of_lt hS.gT, by simpa [World.setCell] using hS.lT⟩
end Go.Proofs.Qxb6616202a.Flow
