import Derived.Test.Qxb6616202aRows
import Derived.WalkKit
import Derived.ProofKit
import Derived.OpenShut
import Derived.ShutString
import Derived.ChangeOld
import Derived.Below
import Derived.Deep.Matrix
import Derived.Test.Qxb6616202aPLawW
import Derived.Test.Qxb6616202aOpen
namespace Go.Proofs.Qxb6616202a.fnPruneTwiceAsOnce
open Go.ChangeShapes Go.WideShapes Go.ChangeAt Go.RowKit
open Go.ChangeMaps (open_string shut_string)
open Go.Proofs.Qxb6616202a.Kit Go.Proofs.Qxb6616202a.Prune
set_option linter.unusedVariables false
set_option linter.unusedSimpArgs false

theorem own : ownKnob Try.prog.godebug = none := by kernel_rfl
theorem laidOut : laidOutB Try.prog = true := by kernel_rfl

/-- What the walk is told of a slice of integers that came in. -/
def IsRow (k : IntKind) (w : World) (a : Option Addr) (len cap : Nat) (zs : List Int) : Prop :=
  (a = none ∧ len = 0 ∧ cap = 0 ∧ zs = []) ∨
  ∃ x, a = some x ∧ len ≤ cap ∧ cap ≤ maxLen ∧ zs.length = cap ∧ (∀ i, i < zs.length → w.cell? (x.add i) = some (.int k (zs.getD i 0))) ∧ ∀ n ∈ zs, (Lit.int k n).wf = true
theorem add_lit (b off j : Nat) : (⟨b, off, none⟩ : Addr).add j = ⟨b, off + j, none⟩ := by unfold Addr.add; split <;> simp_all
theorem rd_take {k : IntKind} {w : World} {x : Addr} {zs : List Int} {l : Nat} (hc : ∀ c, c < zs.length → w.cell? (x.add c) = some (.int k (zs.getD c 0))) : Rd k w (some x) (zs.take l) := by
  intro j hj
  have hj' : j < l ∧ j < zs.length := by simp at hj; omega
  obtain ⟨b, off, spot⟩ := x
  have h0 := hc 0 (by omega)
  have hs : spot = none := by simpa [Addr.add] using World.cell?_spot h0
  subst hs
  refine ⟨b, off, rfl, ?_⟩
  rw [← add_lit, hc j hj'.2]
  simp [List.getD_eq_getElem?_getD, hj'.1]
/-- A slice of slices of integers that came in. -/
theorem came_rows {w : World} {x : Addr} {len cap : Nat} {A : Nat → Option Addr} {L C : Nat → Nat} {Z : Nat → List Int} (hl : len ≤ cap) (hm : cap ≤ maxLen)
    (h : ∀ r, r < cap → w.cell? (x.add r) = some (.slice (A r) (L r) (C r)) ∧ L r ≤ C r ∧ C r ≤ maxLen ∧ (Z r).length = C r ∧ (∀ n ∈ Z r, (Lit.int .i64 n).wf = true) ∧ (A r = none → C r = 0) ∧
        ∀ a', A r = some a' → 0 ≤ a'.block ∧ ∀ c, c < C r → w.cell? (a'.add c) = some (.int .i64 ((Z r).getD c 0))) :
    ∃ Ls : List (List Int), Ls.length = len ∧ len ≤ maxLen ∧ RdL w (some x) Ls ∧ ∀ i, i < Ls.length → (Ls.getD i []).length ≤ maxLen := by
  have hget : ∀ i, i < len → ((List.range len).map fun r => (Z r).take (L r)).getD i [] = (Z i).take (L i) := by
    intro i hi
    simp [List.getD, hi]
  refine ⟨(List.range len).map fun r => (Z r).take (L r), by simp, by omega, ?_, ?_⟩
  · intro i hi
    have hi' : i < len := by simpa using hi
    obtain ⟨h1, h2, h3, h4, h5, h6, h7⟩ := h i (by omega)
    obtain ⟨b, off, spot⟩ := x
    have h0 := (h 0 (by omega)).1
    have hs : spot = none := by simpa [Addr.add] using World.cell?_spot h0
    subst hs
    rw [hget i hi']
    have hlen : ((Z i).take (L i)).length = L i := by simp; omega
    refine ⟨b, off, A i, C i, rfl, ?_, ?_⟩
    · rw [hlen, ← add_lit]; exact h1
    · cases hA : A i with
      | none =>
        have h8 := h6 hA
        intro j hj
        rw [hlen] at hj
        omega
      | some a' => exact rd_take fun c hc => (h7 a' hA).2 c (by omega)
  · intro i hi
    have hi' : i < len := by simpa using hi
    obtain ⟨h1, h2, h3, h4, h5, h6, h7⟩ := h i (by omega)
    rw [hget i hi']
    simp; omega
/-- What the walk is told of the slice of slices. -/
def IsRows (w : World) (a : Option Addr) (len cap : Nat) : Prop := ∃ Ls : List (List Int), Ls.length = len ∧ len ≤ maxLen ∧ RdL w a Ls ∧ ∀ i, i < Ls.length → (Ls.getD i []).length ≤ maxLen

theorem walk (a0 : Option Addr) (len0 cap0 : Nat) (z0 : List Int) (a1 : Option Addr) (len1 cap1 : Nat) (z1 : List Int) (a2 : Option Addr) (len2 cap2 : Nat) (z2 : List Int) (a3 : Int) (a4 : Option Addr) (len4 cap4 : Nat) (z4 : List Int) (a5 : Option Addr) (len5 cap5 : Nat)
    (a6 : Option Addr) (len6 cap6 : Nat) (z6 : List Int) (a7 : Option Addr) (len7 cap7 : Nat) (z7 : List Int) (a8 a9 : Int) (w : World) (w0 : IsRow .i32 w a0 len0 cap0 z0) (w1 : IsRow .i32 w a1 len1 cap1 z1) (w2 : IsRow .i32 w a2 len2 cap2 z2) (w3 : (Lit.int .i32 a3).wf = true) (w4 : IsRow .i32 w a4 len4 cap4 z4)
    (w5 : IsRows w a5 len5 cap5) (w6 : IsRow .i64 w a6 len6 cap6 z6) (w7 : IsRow .i32 w a7 len7 cap7 z7) :
    Calls Try.prog 6 #[.slice a0 len0 cap0, .slice a1 len1 cap1, .slice a2 len2 cap2, .int .i32 a3, .slice a4 len4 cap4, .slice a5 len5 cap5, .slice a6 len6 cap6, .slice a7 len7 cap7, .int .i64 a8, .int .i64 a9] w fun e w' => e = .returned (.bool true) ∧ Below w.heap.size w w' := by
  obtain ⟨x0, rfl, _, m0, r0, _, b0⟩ := Kit.came_in w0
  obtain ⟨x1, rfl, _, m1, r1, _, b1⟩ := Kit.came_in w1
  obtain ⟨x2, rfl, _, m2, r2, _, b2⟩ := Kit.came_in w2
  obtain ⟨x4, rfl, _, m4, r4, _, b4⟩ := Kit.came_in w4
  obtain ⟨Ls, rfl, m5, r5, mm⟩ := w5
  obtain ⟨x6, rfl, _, m6, r6, _, b6⟩ := Kit.came_in w6
  obtain ⟨x7, rfl, _, m7, r7, _, b7⟩ := Kit.came_in w7
  exact prune_law x0 x1 x2 a3 x4 Ls x6 x7 a8 a9 a0 a1 a2 a4 a5 a6 a7 cap0 cap1 cap2 cap4 cap5 cap6 cap7 w r0 r1 r2 r4 r5 r6 r7 m0 m1 m2 m4 m5 m6 m7 mm
    (fun x hx => bounds_i32 (b1 x hx)) (fun x hx => bounds_i32 (b2 x hx)) (fun x hx => bounds_i32 (b4 x hx)) (fun x hx => bounds_i32 (b7 x hx)) (bounds_i32 w3)

theorem row_of {k : IntKind} {W : World} {t q : TypeId} {H : Type} {enc : TypeId × Value → H} {a : Option Addr} {len cap : Nat} {d : DataW H} {p : List MemPlace} (ht : Try.prog.underlying t = some (.slice q)) (hq : Try.prog.underlying q = some (.int k)) (hc : Try.prog.cellsOf q = 1)
    (h : DataW.Trod enc Try.prog W 0 (fun _ => true) true t (.slice a len cap) d p) : ∃ zs, IsRow k W a len cap zs := by
  obtain ⟨fuel, hf⟩ := h
  rcases open_ints ht hq hc hf with ⟨hcs, _⟩ | ⟨x, l, c, zs, hcs, _, hl, hm, hz, _, hcell, hwz⟩
  · simp [Value.cells] at hcs
    obtain ⟨rfl, rfl, rfl⟩ := hcs
    exact ⟨[], .inl ⟨rfl, rfl, rfl, rfl⟩⟩
  · simp [Value.cells] at hcs
    obtain ⟨rfl, rfl, rfl⟩ := hcs
    exact ⟨zs, .inr ⟨_, rfl, hl, hm, by simpa using hz, hcell, hwz⟩⟩
theorem rows_of {W : World} {H : Type} {enc : TypeId × Value → H} {a : Option Addr} {len cap : Nat} {d : DataW H} {p : List MemPlace}
    (h : DataW.Trod enc Try.prog W 0 (fun _ => true) true 40 (.slice a len cap) d p) : IsRows W a len cap := by
  obtain ⟨fuel, hf⟩ := h
  rcases Deep.open_int_rows Try.underlying40 Try.underlying39 Try.underlying3 (by kernel_rfl) (by kernel_rfl) hf with ⟨hcs, _⟩ | ⟨x, l, c, A, L, C, Z, hcs, _, hl, hm, _, hrow⟩
  · simp [Value.cells] at hcs
    obtain ⟨rfl, rfl, rfl⟩ := hcs
    exact ⟨[], rfl, Nat.zero_le _, fun i hi => by simp at hi, fun i hi => by simp at hi⟩
  · simp [Value.cells] at hcs
    obtain ⟨rfl, rfl, rfl⟩ := hcs
    exact came_rows hl hm hrow

set_option maxRecDepth 100000 in
theorem lifted (os : Os) (started : os.Started) (H : Type) (enc : TypeId × Value → H) :
    ReturnsInHanded {} Try.checked os 6 .any (Rows.fnPruneTwiceAsOnceSpec.pre6 enc Try.prog Try.f6 Rows.fnPruneTwiceAsOnceRow.domain false) (Rows.fnPruneTwiceAsOnceSpec.post enc Try.prog Try.f6 false true false false) := by
  refine returnsInHanded_of_change (C := Try.checked) own started (by kernel_rfl) Try.func6
    (ChangeSpec.witness6 (enc := enc) (C := Try.checked) false ⟨#[], #[.slice none 0 0, .slice none 0 0, .slice none 0 0, .int .i32 0, .slice none 0 0, .slice none 0 0, .slice none 0 0, .slice none 0 0, .int .i64 0, .int .i64 0], []⟩ 8 (by kernel_rfl) (by kernel_rfl) (by kernel_rfl) (by kernel_rfl)) ?_
  intro W base args ds gs before hval0 hW hcnd _
  have hval : ∀ (j : Nat) t v, Try.f6.params[j]? = some t → args[j]? = some v → Value.okWide Try.prog W .any base t v := hval0
  have hW' := hW
  obtain ⟨p, q, hA0, hV, rfl, hfz, hnd⟩ := hW
  have hA : DataW.TrodAll enc Try.prog W 0 (fun _ => true) true Try.f6.params.toList args.toList ds p := hA0
  rw [Try.params6] at hA hval
  obtain ⟨v0, vs0, d0, ds0, p0, q0, hargs, rfl, rfl, h0, r0⟩ := trodAll_cons hA
  obtain ⟨v1, vs1, d1, ds1, p1, q1, rfl, rfl, rfl, h1, r1⟩ := trodAll_cons r0
  obtain ⟨v2, vs2, d2, ds2, p2, q2, rfl, rfl, rfl, h2, r2⟩ := trodAll_cons r1
  obtain ⟨v3, vs3, d3, ds3, p3, q3, rfl, rfl, rfl, h3, r3⟩ := trodAll_cons r2
  obtain ⟨v4, vs4, d4, ds4, p4, q4, rfl, rfl, rfl, h4, r4⟩ := trodAll_cons r3
  obtain ⟨v5, vs5, d5, ds5, p5, q5, rfl, rfl, rfl, h5, r5⟩ := trodAll_cons r4
  obtain ⟨v6, vs6, d6, ds6, p6, q6, rfl, rfl, rfl, h6, r6⟩ := trodAll_cons r5
  obtain ⟨v7, vs7, d7, ds7, p7, q7, rfl, rfl, rfl, h7, r7⟩ := trodAll_cons r6
  obtain ⟨v8, vs8, d8, ds8, p8, q8, rfl, rfl, rfl, h8, r8⟩ := trodAll_cons r7
  obtain ⟨v9, vs9, d9, ds9, p9, q9, rfl, rfl, rfl, h9, r9⟩ := trodAll_cons r8
  obtain ⟨rfl, rfl, rfl⟩ := trodAll_nil r9
  obtain rfl : args = #[v0, v1, v2, v3, v4, v5, v6, v7, v8, v9] := by cases args; simp_all
  obtain ⟨rfl, rfl⟩ := trodVars_none hV
  obtain ⟨a0, len0, cap0, rfl⟩ := okWide_slice Try.underlying31 (hval 0 31 v0 rfl rfl)
  obtain ⟨a1, len1, cap1, rfl⟩ := okWide_slice Try.underlying31 (hval 1 31 v1 rfl rfl)
  obtain ⟨a2, len2, cap2, rfl⟩ := okWide_slice Try.underlying31 (hval 2 31 v2 rfl rfl)
  obtain ⟨a3, rfl, rfl, rfl, w3⟩ := open_int Try.underlying21 (hval 3 21 v3 rfl rfl) h3
  obtain ⟨a4, len4, cap4, rfl⟩ := okWide_slice Try.underlying31 (hval 4 31 v4 rfl rfl)
  obtain ⟨a5, len5, cap5, rfl⟩ := okWide_slice Try.underlying40 (hval 5 40 v5 rfl rfl)
  obtain ⟨a6, len6, cap6, rfl⟩ := okWide_slice Try.underlying39 (hval 6 39 v6 rfl rfl)
  obtain ⟨a7, len7, cap7, rfl⟩ := okWide_slice Try.underlying31 (hval 7 31 v7 rfl rfl)
  obtain ⟨a8, rfl, rfl, rfl, w8⟩ := open_int Try.underlying3 (hval 8 3 v8 rfl rfl) h8
  obtain ⟨a9, rfl, rfl, rfl, w9⟩ := open_int Try.underlying3 (hval 9 3 v9 rfl rfl) h9
  have lt0 : ∀ x ∈ p0, x.block < W.heap.size := by obtain ⟨m, hm⟩ := h0; exact DataW.trod_lt m _ _ _ hm
  have lt1 : ∀ x ∈ p1, x.block < W.heap.size := by obtain ⟨m, hm⟩ := h1; exact DataW.trod_lt m _ _ _ hm
  have lt2 : ∀ x ∈ p2, x.block < W.heap.size := by obtain ⟨m, hm⟩ := h2; exact DataW.trod_lt m _ _ _ hm
  have lt4 : ∀ x ∈ p4, x.block < W.heap.size := by obtain ⟨m, hm⟩ := h4; exact DataW.trod_lt m _ _ _ hm
  have lt5 : ∀ x ∈ p5, x.block < W.heap.size := by obtain ⟨m, hm⟩ := h5; exact DataW.trod_lt m _ _ _ hm
  have lt6 : ∀ x ∈ p6, x.block < W.heap.size := by obtain ⟨m, hm⟩ := h6; exact DataW.trod_lt m _ _ _ hm
  have lt7 : ∀ x ∈ p7, x.block < W.heap.size := by obtain ⟨m, hm⟩ := h7; exact DataW.trod_lt m _ _ _ hm
  obtain ⟨z0, w0⟩ := row_of (k := .i32) Try.underlying31 Try.underlying21 (by kernel_rfl) h0
  obtain ⟨z1, w1⟩ := row_of (k := .i32) Try.underlying31 Try.underlying21 (by kernel_rfl) h1
  obtain ⟨z2, w2⟩ := row_of (k := .i32) Try.underlying31 Try.underlying21 (by kernel_rfl) h2
  obtain ⟨z4, w4⟩ := row_of (k := .i32) Try.underlying31 Try.underlying21 (by kernel_rfl) h4
  have w5 := rows_of h5
  obtain ⟨z6, w6⟩ := row_of (k := .i64) Try.underlying39 Try.underlying3 (by kernel_rfl) h6
  obtain ⟨z7, w7⟩ := row_of (k := .i32) Try.underlying31 Try.underlying21 (by kernel_rfl) h7
  clear hA0 hval0
  refine (walk a0 len0 cap0 z0 a1 len1 cap1 z1 a2 len2 cap2 z2 a3 a4 len4 cap4 z4 a5 len5 cap5 a6 len6 cap6 z6 a7 len7 cap7 z7 a8 a9 W w0 w1 w2 w3 w4 w5 w6 w7).mono fun e W' ⟨he, bel⟩ => ?_
  subst he
  have s0 := Below.trod laidOut (by kernel_rfl) (of_decide_eq_true (by kernel_rfl)) h0 bel lt0
  have s1 := Below.trod laidOut (by kernel_rfl) (of_decide_eq_true (by kernel_rfl)) h1 bel lt1
  have s2 := Below.trod laidOut (by kernel_rfl) (of_decide_eq_true (by kernel_rfl)) h2 bel lt2
  have s4 := Below.trod laidOut (by kernel_rfl) (of_decide_eq_true (by kernel_rfl)) h4 bel lt4
  have s5 := Below.trod laidOut (by kernel_rfl) (of_decide_eq_true (by kernel_rfl)) h5 bel lt5
  have s6 := Below.trod laidOut (by kernel_rfl) (of_decide_eq_true (by kernel_rfl)) h6 bel lt6
  have s7 := Below.trod laidOut (by kernel_rfl) (of_decide_eq_true (by kernel_rfl)) h7 bel lt7
  exact ⟨_, rfl, _, _, _, [], _, [], hW', trodAll_mk1 (shut_bool Try.underlying4 _), (trodAll_cons_mk s0 (trodAll_cons_mk s1 (trodAll_cons_mk s2 (trodAll_cons_mk (shut_int Try.underlying21 w3) (trodAll_cons_mk s4 (trodAll_cons_mk s5 (trodAll_cons_mk s6 (trodAll_cons_mk s7 (trodAll_cons_mk (shut_int Try.underlying3 w8) (trodAll_cons_mk (shut_int Try.underlying3 w9) trodAll_mk0)))))))))), rfl, bel.frame _, fun h => by cases h⟩

theorem over : Rows.fnPruneTwiceAsOnceRow.holds Try.pinned (OpenSpec.ofChange Rows.fnPruneTwiceAsOnceSpec) :=
  OpenClaim.holds_of_wide 6 Try.f6 rfl rfl rfl rfl rfl rfl rfl ⟨rfl, rfl, rfl, rfl, rfl⟩ rfl rfl rfl rfl rfl (by kernel_rfl) Try.func6 (by kernel_rfl)
    (of_decide_eq_true (by kernel_rfl)) (by unfold Func.isWrapper; first | (rw [if_pos (by decide +kernel)]; kernel_rfl) | (rw [if_neg (by decide +kernel)]; exact ⟨rfl, rfl⟩))
    (fun os started H enc _ => lifted os started H enc)

/-- The statement. -/
theorem proved : Rows.FnPruneTwiceAsOnceSaid := over
#print axioms proved
end Go.Proofs.Qxb6616202a.fnPruneTwiceAsOnce
