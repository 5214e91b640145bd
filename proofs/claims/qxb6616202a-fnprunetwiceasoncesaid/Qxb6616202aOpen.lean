import Derived.Test.Qxb6616202aKit
import Derived.OpenShut
namespace Go.Proofs.Qxb6616202a.Kit
open Go.RowKit
set_option linter.unusedVariables false
set_option linter.unusedSimpArgs false

/-- From the shell's telling of a slice that came in to ours. -/
theorem came_in {k : IntKind} {w : World} {a : Option Addr} {len cap : Nat} {zs : List Int}
    (h : (a = none ∧ len = 0 ∧ cap = 0 ∧ zs = []) ∨ ∃ x, a = some x ∧ len ≤ cap ∧ cap ≤ maxLen ∧ zs.length = cap ∧ (∀ i, i < zs.length → w.cell? (x.add i) = some (.int k (zs.getD i 0))) ∧ ∀ n ∈ zs, (Lit.int k n).wf = true) :
    ∃ xs : List Int, xs.length = len ∧ len ≤ cap ∧ len ≤ maxLen ∧ Rd k w a xs ∧ (a = none → cap = 0) ∧ ∀ n ∈ xs, (Lit.int k n).wf = true := by
  rcases h with ⟨rfl, rfl, rfl, rfl⟩ | ⟨x, rfl, hl, hm, hz, hc, hw⟩
  · exact ⟨[], rfl, Nat.le_refl _, Nat.zero_le _, fun j hj => by simp at hj, fun _ => rfl, fun n hn => by simp at hn⟩
  · refine ⟨zs.take len, by simp; omega, hl, by omega, fun j hj => ?_, by simp, fun n hn => hw n (List.mem_of_mem_take hn)⟩
    have hj' : j < len ∧ j < zs.length := by simp at hj; omega
    obtain ⟨b, off, spot⟩ := x
    have h0 := hc 0 (by omega)
    have hs : spot = none := by simpa [Addr.add] using World.cell?_spot h0
    subst hs
    have hadd : (⟨b, off, none⟩ : Addr).add j = ⟨b, off + j, none⟩ := by unfold Addr.add; split <;> simp_all
    refine ⟨b, off, rfl, ?_⟩
    rw [← hadd, hc j hj'.2]
    simp [List.getD_eq_getElem?_getD, hj'.1]
end Go.Proofs.Qxb6616202a.Kit
