import Derived.Test.Qxb6616227aRows
import Derived.WalkKit
import Derived.ProofKit
import Derived.OpenShut
import Derived.ShutString
import Derived.ChangeOld
import Derived.Below
import Derived.Deep.SlicePairs
import Derived.Test.Qxb6616227aILaw
namespace Go.Proofs.Qxb6616227a.fnInspectBinaryChainPreorder
open Go.ChangeShapes Go.WideShapes Go.ChangeAt Go.RowKit Go.Deep
open Go.Proofs.Qxb6616227a.Ins
set_option linter.unusedVariables false
set_option linter.unusedSimpArgs false

theorem own : ownKnob Try.prog.godebug = none := by kernel_rfl
theorem laidOut : laidOutB Try.prog = true := by kernel_rfl
set_option maxRecDepth 100000 in
/-- The links that came in, as the walk is told of them. -/
theorem links_of {W : World} {H : Type} {enc : TypeId × Value → H} {a : Option Addr} {len cap : Nat} {d : DataW H} {p : List MemPlace}
    (h : DataW.Trod enc Try.prog W 0 (fun _ => true) true 22 (.slice a len cap) d p) : ∃ ks : List Lk, ks.length = len ∧ len ≤ maxLen ∧ RdK W a ks := by
  obtain ⟨fuel, hf⟩ := h
  rcases open_slice Try.underlying22 hf with ⟨hcs, _⟩ | ⟨x, l, c, m, n, D, Pl, hcs, _, hl, hm, hmm, _, hx⟩
  · simp [Value.cells] at hcs
    obtain ⟨rfl, rfl, rfl⟩ := hcs
    exact ⟨[], rfl, Nat.zero_le _, fun i hi => by simp at hi⟩
  · simp [Value.cells] at hcs
    obtain ⟨rfl, rfl, rfl⟩ := hcs
    have hml : len ≤ m := by rw [hmm]; simp; omega
    have ce : Try.prog.cellsOf 31 = 4 := by kernel_rfl
    have c3 : Try.prog.cellsOf 3 = 1 := by kernel_rfl
    have each : ∀ i, i < len → ∃ k : Lk, W.cell? (x.add (i * 4)) = some (.int .i64 k.o.1) ∧ W.cell? (x.add (i * 4 + 1)) = some (.int .i64 k.o.2) ∧ W.cell? (x.add (i * 4 + 2)) = some (.int .i64 k.y.1) ∧ W.cell? (x.add (i * 4 + 3)) = some (.int .i64 k.y.2) := by
      intro i hi
      obtain ⟨cs', h1, h2⟩ := hx i (by omega)
      rw [ce] at h1
      obtain ⟨_, hlen, hcell⟩ := World.cells?_some h1
      obtain ⟨xs, k, hk, hxy, _, hxl, hfl⟩ := DataW.trod_struct Try.underlying31 h2
      match xs, hxl, cs', hlen with
      | [y0, y1, y2, y3], _, [v0, v1, v2, v3], _ =>
        have g0 := hfl 0 _ rfl
        have g1 := hfl 1 _ rfl
        have g2 := hfl 2 _ rfl
        have g3 := hfl 3 _ rfl
        simp [c3] at g0 g1 g2 g3
        obtain ⟨n0, e0, _, _⟩ := DataW.trod_int Try.underlying3 g0
        obtain ⟨n1, e1, _, _⟩ := DataW.trod_int Try.underlying3 g1
        obtain ⟨n2, e2, _, _⟩ := DataW.trod_int Try.underlying3 g2
        obtain ⟨n3, e3, _, _⟩ := DataW.trod_int Try.underlying3 g3
        have q0 := hcell 0 (by omega)
        have q1 := hcell 1 (by omega)
        have q2 := hcell 2 (by omega)
        have q3 := hcell 3 (by omega)
        rw [add_add] at q0 q1 q2 q3
        simp at e0 e1 e2 e3
        subst e0 e1 e2 e3
        exact ⟨⟨(n0, n1), (n2, n3)⟩, by simpa using q0, by simpa using q1, by simpa using q2, by simpa using q3⟩
    obtain ⟨f, hfk⟩ := choose_lt each
    refine ⟨(List.range len).map f, by simp, by omega, fun i hi => ?_⟩
    have hi' : i < len := by simpa using hi
    obtain ⟨b, off, spot⟩ := x
    have h0 := (hfk 0 (by omega)).1
    have hs : spot = none := by simpa [Addr.add] using World.cell?_spot h0
    subst hs
    have hadd : ∀ j, (⟨b, off, none⟩ : Addr).add j = ⟨b, off + j, none⟩ := fun j => by unfold Addr.add; split <;> simp_all
    have hg : ((List.range len).map f).getD i lk0 = f i := by simp [List.getD, hi']
    obtain ⟨q0, q1, q2, q3⟩ := hfk i hi'
    rw [hadd] at q0 q1 q2 q3
    rw [hg]
    exact ⟨b, off, rfl, q0, by rw [Nat.add_assoc]; exact q1, by rw [Nat.add_assoc]; exact q2, by rw [Nat.add_assoc]; exact q3⟩

set_option maxRecDepth 100000 in
theorem lifted (os : Os) (started : os.Started) (H : Type) (enc : TypeId × Value → H) :
    ReturnsInHanded {} Try.checked os 3 .any (Rows.fnInspectBinaryChainPreorderSpec.pre6 enc Try.prog Try.f3 Rows.fnInspectBinaryChainPreorderRow.domain false) (Rows.fnInspectBinaryChainPreorderSpec.post enc Try.prog Try.f3 false true false false) := by
  refine returnsInHanded_of_change (C := Try.checked) own started (by kernel_rfl) Try.func3
    (ChangeSpec.witness6 (enc := enc) (C := Try.checked) false ⟨#[], #[.int .i64 0, .int .i64 0, .slice none 0 0, .int .i64 0], []⟩ 8 (by kernel_rfl) (by kernel_rfl) (by kernel_rfl) (by kernel_rfl)) ?_
  intro W base args ds gs before hval0 hW hcnd _
  have hval : ∀ (j : Nat) t v, Try.f3.params[j]? = some t → args[j]? = some v → Value.okWide Try.prog W .any base t v := hval0
  have hW' := hW
  obtain ⟨p, q, hA0, hV, rfl, hfz, hnd⟩ := hW
  have hA : DataW.TrodAll enc Try.prog W 0 (fun _ => true) true Try.f3.params.toList args.toList ds p := hA0
  rw [Try.params3] at hA hval
  obtain ⟨v0, vs0, d0, ds0, p0, q0, hargs, rfl, rfl, h0, r0⟩ := trodAll_cons hA
  obtain ⟨v1, vs1, d1, ds1, p1, q1, rfl, rfl, rfl, h1, r1⟩ := trodAll_cons r0
  obtain ⟨v2, vs2, d2, ds2, p2, q2, rfl, rfl, rfl, h2, r2⟩ := trodAll_cons r1
  obtain ⟨v3, vs3, d3, ds3, p3, q3, rfl, rfl, rfl, h3, r3⟩ := trodAll_cons r2
  obtain ⟨rfl, rfl, rfl⟩ := trodAll_nil r3
  obtain rfl : args = #[v0, v1, v2, v3] := by cases args; simp_all
  obtain ⟨rfl, rfl⟩ := trodVars_none hV
  obtain ⟨a0, rfl, rfl, rfl, w0⟩ := open_int Try.underlying3 (hval 0 3 v0 rfl rfl) h0
  obtain ⟨a1, rfl, rfl, rfl, w1⟩ := open_int Try.underlying3 (hval 1 3 v1 rfl rfl) h1
  obtain ⟨a2, len2, cap2, rfl⟩ := okWide_slice Try.underlying22 (hval 2 22 v2 rfl rfl)
  obtain ⟨a3, rfl, rfl, rfl, w3⟩ := open_int Try.underlying3 (hval 3 3 v3 rfl rfl) h3
  have lt2 : ∀ x ∈ p2, x.block < W.heap.size := by obtain ⟨m, hm⟩ := h2; exact DataW.trod_lt m _ _ _ hm
  obtain ⟨ks, rfl, hml, hR⟩ := links_of h2
  clear hA0 hval0
  refine (insp_law a0 a1 a3 ks a2 cap2 W hR hml).mono fun e W' ⟨he, bel⟩ => ?_
  subst he
  have s2 := Below.trod laidOut (by kernel_rfl) (of_decide_eq_true (by kernel_rfl)) h2 bel lt2
  exact ⟨_, rfl, _, _, _, [], _, [], hW', trodAll_mk1 (shut_bool Try.underlying4 _), (trodAll_cons_mk (shut_int Try.underlying3 w0) (trodAll_cons_mk (shut_int Try.underlying3 w1) (trodAll_cons_mk s2 (trodAll_cons_mk (shut_int Try.underlying3 w3) trodAll_mk0)))), rfl, bel.frame _, fun h => by cases h⟩

theorem over : Rows.fnInspectBinaryChainPreorderRow.holds Try.pinned (OpenSpec.ofChange Rows.fnInspectBinaryChainPreorderSpec) :=
  OpenClaim.holds_of_wide 3 Try.f3 rfl rfl rfl rfl rfl rfl rfl ⟨rfl, rfl, rfl, rfl, rfl⟩ rfl rfl rfl rfl rfl (by kernel_rfl) Try.func3 (by kernel_rfl)
    (of_decide_eq_true (by kernel_rfl)) (by unfold Func.isWrapper; first | (rw [if_pos (by decide +kernel)]; kernel_rfl) | (rw [if_neg (by decide +kernel)]; exact ⟨rfl, rfl⟩))
    (fun os started H enc _ => lifted os started H enc)

/-- The statement. -/
theorem proved : Rows.FnInspectBinaryChainPreorderSaid := over
#print axioms proved
end Go.Proofs.Qxb6616227a.fnInspectBinaryChainPreorder
