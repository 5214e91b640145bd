import Derived.Test.Qxb6616227aRows
import Derived.WalkKit
import Derived.WalkSpells
import Derived.Below
import Derived.Deep.AppendLies
import Derived.Deep.RegionHeldLaw
import Derived.Deep.QuietTactic
import Derived.BigQuiet
namespace Go.Proofs.Qxb6616227a.Ins
open Go.RowKit
set_option linter.unusedVariables false
set_option linter.unusedSimpArgs false

theorem hide {p : Prop} (h : p) : Hid p := h
theorem cell_lt {w : World} {b o : Nat} {v : Value} (h : w.cell? ⟨b, o, none⟩ = some v) : b < w.heap.size := World.block_lt_of_cell? w ⟨b, o, none⟩ h
theorem obj_lt {w : World} {b : Nat} {o : Obj} (h : w.heap[b]? = some o) : b < w.heap.size := (Array.getElem?_eq_some_iff.1 h).1
theorem seen {B : Nat} {w w' : World} (hb : Below B w w') {b o : Nat} {v : Value} (hB : b < B) (h : w.cell? ⟨b, o, none⟩ = some v) : w'.cell? ⟨b, o, none⟩ = some v := (hb.cell (p := ⟨b, o, none⟩) hB).trans h
theorem al_cell {W : World} {b off : Nat} {v : Value} (h : W.cell? ⟨b, off, none⟩ = some v) (o : Obj) : (W.alloc o).cell? ⟨b, off, none⟩ = some v :=
  (World.cell?_of_block (a := ⟨b, off, none⟩) (Below.heap_alloc W o b (cell_lt h))).trans h

theorem below_drewN {B : Nat} {w0 w : World} (h : Below B w0 w) (q : Nat) : Below B w0 (w.drewN q) := ⟨h.os, h.tape, h.output, h.size, h.block⟩
/-- A position; a link of the chain: the operator's and its right operand's. -/
abbrev Po := Int × Int
structure Lk where
  o : Po
  y : Po
instance : Inhabited Lk := ⟨⟨(0, 0), (0, 0)⟩⟩
def lk0 : Lk := ⟨(0, 0), (0, 0)⟩
/-- The cells of a row of positions. -/
def pv (ps : List Po) : List Value := ps.flatMap fun p => [.int .i64 p.1, .int .i64 p.2]
theorem pv_append (ps qs : List Po) : pv (ps ++ qs) = pv ps ++ pv qs := List.flatMap_append
theorem pv_length (ps : List Po) : (pv ps).length = ps.length * 2 := by
  induction ps with
  | nil => rfl
  | cons p ps ih => simp [pv] at ih ⊢; omega
theorem pv_get (ps : List Po) : ∀ i, i < ps.length → (pv ps)[i * 2]? = some (.int .i64 (ps.getD i (0, 0)).1) ∧ (pv ps)[i * 2 + 1]? = some (.int .i64 (ps.getD i (0, 0)).2) := by
  induction ps with
  | nil => intro i hi; simp at hi
  | cons p ps ih =>
    intro i hi
    have e : pv (p :: ps) = [.int .i64 p.1, .int .i64 p.2] ++ pv ps := rfl
    cases i with
    | zero => simp [e]
    | succ i =>
      have := ih i (by simpa using hi)
      rw [e, show (i + 1) * 2 = i * 2 + 2 by omega, List.getElem?_append_right (by simp), List.getElem?_append_right (by simp)]
      simpa using this
theorem pv_one (ps : List Po) : ∀ u ∈ pv ps, u.oneCell' = true := by
  intro u hu
  simp only [pv, List.mem_flatMap] at hu
  obtain ⟨p, _, hp⟩ := hu
  simp at hp
  rcases hp with rfl | rfl <;> rfl
theorem info25 : (Try.prog.info? 25).map (fun i => (i.zero.map (·.cells.size), i.size, i.bytes)) = some (some 2, 2, 16) := by kernel_rfl
theorem info_cells {P : Program} {e : TypeId} {z size bytes : Nat} (h : (P.info? e).map (fun i => (i.zero.map (·.cells.size), i.size, i.bytes)) = some (some z, size, bytes)) :
    ∃ i v, P.info? e = some i ∧ i.zero = some v ∧ v.cells.size = z ∧ i.size = size ∧ i.bytes = bytes := by
  obtain ⟨i, hi, hzz⟩ := Option.map_eq_some_iff.1 h
  simp only [Prod.mk.injEq] at hzz
  obtain ⟨v, hv, hc⟩ := Option.map_eq_some_iff.1 hzz.1
  exact ⟨i, v, hi, hv, hc, hzz.2.1, hzz.2.2⟩
abbrev pcell (p : Po) : Obj := .cells #[.int .i64 p.1, .int .i64 p.2] 25

/-- 'out = append(out, p)', as a run. -/
theorem run_out (w : World) (ty : TypeId) (base : Nat) (v : Value) (n : Nat) (ps : List Po) (hown : w.ownsRow base 25 2 v n (pv ps)) (g0 : Nat) (p : Po) (hg : w.heap[g0]? = some (pcell p)) (hn : n ≤ 1000000) (hbase : base ≤ w.heap.size) :
    ∃ g cap w', (Builtin.append_ #[26, 26] ty #[v, .slice (some ⟨g0, 0, none⟩) 1 1]).run Try.prog w = .ok (.slice (some ⟨g, 0, none⟩) (n + 1) cap) w' ∧
      w'.ownsRow base 25 2 (.slice (some ⟨g, 0, none⟩) (n + 1) cap) (n + 1) (pv (ps ++ [p])) ∧ w.grownBy w' v.ownBlock ∧ (v.ownBlock = some g ∨ g = w.heap.size) ∧ g < w'.heap.size := by
  obtain ⟨i, z, hi, hz, hzc, h1, h2⟩ := info_cells info25
  have h := run_append_lies (P := Try.prog) w 26 ty base 25 i z 2 16 Try.underlying26 hi hz h1 h2 hzc (by decide) v n (pv ps) hown ⟨g0, 0, none⟩ 1 1 (pv [p]) rfl ?_ (pv_one _) (by decide) (by unfold maxLen; omega) (by omega) hbase w.heap.size rfl
  · rw [pv_append]; exact h
  · intro j u hj
    have hadd : (⟨g0, 0, none⟩ : Addr).add j = ⟨g0, j, none⟩ := by unfold Addr.add; split <;> simp_all
    rw [hadd, cell_of_row _ _ _ _ _ _ hg]
    simpa [pv] using hj
theorem list_out {ops : Array Oper} {rest : List Oper} {o : Oper} {a : Act} {w : World} {Q : Exit → Act → World → Prop} (hgd : o.guard = none) (s x : Operand) (ho : o.op = .call { callee := .builtin .append, args := #[s, x], argTypes := #[26, 26] })
    (base : Nat) (v : Value) (n : Nat) (ps : List Po) (hs : a.eval s = v) (hown : w.ownsRow base 25 2 v n (pv ps)) (g0 : Nat) (p : Po) (hx : a.eval x = .slice (some ⟨g0, 0, none⟩) 1 1) (hg : w.heap[g0]? = some (pcell p)) (hn : n ≤ 1000000) (hbase : base ≤ w.heap.size)
    (h : ∀ g cap w', w'.ownsRow base 25 2 (.slice (some ⟨g, 0, none⟩) (n + 1) cap) (n + 1) (pv (ps ++ [p])) → w.grownBy w' v.ownBlock → (v.ownBlock = some g ∨ g = w.heap.size) → g < w'.heap.size → wpList Try.prog ops Q rest (a.put o.dst (.slice (some ⟨g, 0, none⟩) (n + 1) cap)) w') : wpList Try.prog ops Q (o :: rest) a w := by
  obtain ⟨g, cap, w', hr, h2, h3, h4, h5⟩ := run_out w o.type base v n ps hown g0 p hg hn hbase
  refine wpList_plain hgd fun K hK => ?_
  unfold Oper.wp
  simp only [execOp, ho, resolve, invoke, builtin, Sem.run_bind, Sem.run_pure, Result.andThen_ok, List.map_toArray, List.map_cons, List.map_nil, hs, hx, hr]
  exact hK _ _ (h g cap w' h2 h3 h4 h5)
theorem step_out {ops : Array Oper} {o : Oper} {a : Act} {w : World} {K : Act → World → Prop} {Q : Exit → Act → World → Prop} {E : Prop} (hgd : o.guard = none) (s x : Operand) (ho : o.op = .call { callee := .builtin .append, args := #[s, x], argTypes := #[26, 26] })
    (u v2 v : Value) (w' : World) (hs : a.eval s = u) (hx : a.eval x = v2) (hrun : (Builtin.append_ #[26, 26] o.type #[u, v2]).run Try.prog w = .ok v w') (hK : K (a.put o.dst v) w') :
    if Region.wanted o (yielded ops a.tmps) = true then Oper.wp Try.prog o a w K Q else E := by
  have hw : Region.wanted o (yielded ops a.tmps) = true := by simp [Region.wanted, hgd]
  rw [if_pos hw]
  unfold Oper.wp
  simp [execOp, ho, resolve, invoke, builtin, hs, hx, hrun, Result.andThen]
  exact hK

/-- The links that came in. -/
def RdK (w : World) (a : Option Addr) (ks : List Lk) : Prop := ∀ i, i < ks.length → ∃ b off, a = some ⟨b, off, none⟩ ∧
  w.cell? ⟨b, off + i * 4, none⟩ = some (.int .i64 (ks.getD i lk0).o.1) ∧ w.cell? ⟨b, off + i * 4 + 1, none⟩ = some (.int .i64 (ks.getD i lk0).o.2) ∧ w.cell? ⟨b, off + i * 4 + 2, none⟩ = some (.int .i64 (ks.getD i lk0).y.1) ∧ w.cell? ⟨b, off + i * 4 + 3, none⟩ = some (.int .i64 (ks.getD i lk0).y.2)
theorem RdK.below {w w' : World} {a : Option Addr} {ks : List Lk} (h : RdK w a ks) (hb : Below w.heap.size w w') : RdK w' a ks := by
  intro i hi
  obtain ⟨b, off, e, h0, h1, h2, h3⟩ := h i hi
  have hl := cell_lt h0
  exact ⟨b, off, e, seen hb hl h0, seen hb hl h1, seen hb hl h2, seen hb hl h3⟩

/-- The chain's pruned preorder, from level n - 1 down. -/
def model (leaf : Po) (ks : List Lk) (skip : Int) : Nat → List Po
  | 0 => [leaf]
  | n + 1 => (ks.getD n lk0).o :: if (ks.getD n lk0).o.1 = skip then [] else model leaf ks skip n ++ [(ks.getD n lk0).y]
theorem model_le (leaf : Po) (ks : List Lk) (skip : Int) (n : Nat) : (model leaf ks skip n).length ≤ 2 * n + 1 := by
  induction n with
  | zero => simp [model]
  | succ n ih =>
    unfold model
    split
    · simp
    · simp; omega

/-- What a row of positions reads. -/
def RdP (w : World) (a : Option Addr) (ps : List Po) : Prop := ∀ i, i < ps.length → ∃ b off, a = some ⟨b, off, none⟩ ∧ w.cell? ⟨b, off + i * 2, none⟩ = some (.int .i64 (ps.getD i (0, 0)).1) ∧ w.cell? ⟨b, off + i * 2 + 1, none⟩ = some (.int .i64 (ps.getD i (0, 0)).2)
theorem RdP.below {w w' : World} {a : Option Addr} {ps : List Po} (h : RdP w a ps) (hb : Below w.heap.size w w') : RdP w' a ps := by
  intro i hi
  obtain ⟨b, off, e, h0, h1⟩ := h i hi
  have hl := cell_lt h0
  exact ⟨b, off, e, seen hb hl h0, seen hb hl h1⟩
theorem rdp_of {w : World} {base n : Nat} {v : Value} {ps : List Po} (h : w.ownsRow base 25 2 v n (pv ps)) : ∃ a c, v = .slice a n c ∧ ps.length = n ∧ RdP w a ps := by
  obtain ⟨hl, h | ⟨g, cap, cur, rfl, hg, hh, hn, _, hs, ht⟩⟩ := h
  · obtain ⟨rfl, rfl⟩ := h
    rw [pv_length] at hl
    have : ps = [] := List.eq_nil_of_length_eq_zero (by omega)
    subst this
    exact ⟨none, 0, rfl, rfl, fun i hi => by simp at hi⟩
  · rw [pv_length] at hl
    refine ⟨_, _, rfl, by omega, fun i hi => ⟨g, 0, rfl, ?_, ?_⟩⟩
    · rw [Nat.zero_add, cell_of_row w g _ cur 25 _ hh]
      have e := congrArg (fun l => l[i * 2]?) ht
      simp only [List.getElem?_take] at e
      rw [if_pos (by omega), (pv_get ps i hi).1] at e
      simpa using e
    · rw [Nat.zero_add, cell_of_row w g _ cur 25 _ hh]
      have e := congrArg (fun l => l[i * 2 + 1]?) ht
      simp only [List.getElem?_take] at e
      rw [if_pos (by omega), (pv_get ps i hi).2] at e
      simpa using e
end Go.Proofs.Qxb6616227a.Ins
