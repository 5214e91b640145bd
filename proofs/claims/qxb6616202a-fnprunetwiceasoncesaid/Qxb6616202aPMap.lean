import Derived.Test.Qxb6616202aRows
import Derived.Test.Qxb6616202aKit
import Derived.MapKept
import Derived.Maps.OwnOps
import Derived.Maps.OwnSet
namespace Go.Proofs.Qxb6616202a.Prune
open Go.RowKit Go.Proofs.Qxb6616202a.Kit
set_option linter.unusedVariables false
set_option linter.unusedSimpArgs false

/-- The map in block b, entry by entry. -/
def MapIs (w : World) (b : Nat) (kv : List (Int × Value)) : Prop :=
  ∃ es clock, w.heap[b]? = some (.map es clock) ∧ es.toList.map (fun e => (e.key, e.val)) = kv.map fun p => (Value.int .u64 p.1, p.2)
theorem MapIs.lt {w : World} {b : Nat} {kv : List (Int × Value)} (h : MapIs w b kv) : b < w.heap.size := by
  obtain ⟨es, c, hh, _⟩ := h
  exact (Array.getElem?_eq_some_iff.1 hh).1
theorem MapIs.same {w w' : World} {b : Nat} {kv : List (Int × Value)} (h : MapIs w b kv) (hb : w'.heap[b]? = w.heap[b]?) : MapIs w' b kv := by
  obtain ⟨es, c, hh, he⟩ := h
  exact ⟨es, c, hb.trans hh, he⟩

theorem find_hit (k : Int) (v : Value) (B : List (Int × Value)) : ∀ (A : List (Int × Value)) (l : List MapEntry) (i : Nat), (∀ p ∈ A, p.1 ≠ k) → l.map (fun e => (e.key, e.val)) = (A ++ (k, v) :: B).map (fun p => (Value.int .u64 p.1, p.2)) →
    Instr.findNow (.int .u64) (.int .u64 k) l i = some (some (i + A.length, v)) := by
  intro A
  induction A with
  | nil =>
    intro l i _ h
    cases l with
    | nil => simp at h
    | cons e l =>
      simp at h
      simp [Instr.findNow, h.1.1, h.1.2, Instr.sameNow]
  | cons a A ih =>
    intro l i hA h
    cases l with
    | nil => simp at h
    | cons e l =>
      simp only [List.cons_append, List.map_cons, List.cons.injEq, Prod.mk.injEq] at h
      have hne : (k == a.1) = false := beq_eq_false_iff_ne.2 fun q => hA a (by simp) q.symm
      have := ih l (i + 1) (fun p hp => hA p (by simp [hp])) h.2
      simp [Instr.findNow, h.1.1, Instr.sameNow, hne, this]
      omega
theorem find_miss (k : Int) : ∀ (A : List (Int × Value)) (l : List MapEntry) (i : Nat), (∀ p ∈ A, p.1 ≠ k) → l.map (fun e => (e.key, e.val)) = A.map (fun p => (Value.int .u64 p.1, p.2)) →
    Instr.findNow (.int .u64) (.int .u64 k) l i = some none := by
  intro A
  induction A with
  | nil =>
    intro l i _ h
    cases l with
    | nil => rfl
    | cons e l => simp at h
  | cons a A ih =>
    intro l i hA h
    cases l with
    | nil => simp at h
    | cons e l =>
      simp only [List.map_cons, List.cons.injEq, Prod.mk.injEq] at h
      have hne : (k == a.1) = false := beq_eq_false_iff_ne.2 fun q => hA a (by simp) q.symm
      have := ih l (i + 1) (fun p hp => hA p (by simp [hp])) h.2
      simp [Instr.findNow, h.1.1, Instr.sameNow, hne, this]

theorem check56 (k : Int) (e : Bool) (w : World) : (Instr.checkKey e 10000 56 (.int .u64 k)).run Try.prog w = .ok () w := MapKept.run_checkKey Try.underlying56 (by simp [MapKept.IsKey]) e 9999
theorem zero39 (w : World) : (zeroValue 39).run Try.prog w = .ok (.slice none 0 0) w := by kernel_rfl

theorem look_hit {w : World} {b : Nat} {A B : List (Int × Value)} {k : Int} {v : Value} (h : MapIs w b (A ++ (k, v) :: B)) (hA : ∀ p ∈ A, p.1 ≠ k) (ok : Bool) :
    (Instr.lookup 98 (.map (some b)) (.int .u64 k) ok).run Try.prog w = .ok (if ok then .tuple #[v, .bool true] else v) w := by
  obtain ⟨es, c, hh, he⟩ := h
  have hf := MapKept.run_findKey (P := Try.prog) (w := w) Try.underlying56 (find_hit k v B A es.toList 0 hA he)
  simp [Instr.lookup, run_underlying Try.underlying98, getObj, Sem.run, hh, check56, hf, Result.andThen]
theorem look_miss {w : World} {b : Nat} {A : List (Int × Value)} {k : Int} (h : MapIs w b A) (hA : ∀ p ∈ A, p.1 ≠ k) (ok : Bool) :
    (Instr.lookup 98 (.map (some b)) (.int .u64 k) ok).run Try.prog w = .ok (if ok then .tuple #[.slice none 0 0, .bool false] else .slice none 0 0) w := by
  obtain ⟨es, c, hh, he⟩ := h
  have hf := MapKept.run_findKey (P := Try.prog) (w := w) Try.underlying56 (find_miss k A es.toList 0 hA he)
  simp [Instr.lookup, run_underlying Try.underlying98, getObj, Sem.run, hh, check56, hf, zero39, Result.andThen]

/-- w' is w but for block b. -/
structure But (w w' : World) (b : Nat) : Prop where
  os : w'.os = w.os
  tape : w'.tape = w.tape
  output : w'.output = w.output
  size : w'.heap.size = w.heap.size
  block : ∀ k, k ≠ b → w'.heap[k]? = w.heap[k]?
theorem but_set (w : World) (b : Nat) (o : Obj) : But w { w with heap := w.heap.setIfInBounds b o } b :=
  ⟨rfl, rfl, rfl, by simp, fun k hk => by simp [Array.getElem?_setIfInBounds, Ne.symm hk]⟩
theorem But.below {w w' : World} {b B : Nat} (h : But w w' b) (hB : B ≤ b) : Below B w w' := ⟨h.os, h.tape, h.output, Nat.le_of_eq h.size.symm, fun k hk => h.block k (by omega)⟩

theorem upd_hit {w : World} {b : Nat} {A B : List (Int × Value)} {k : Int} {v : Value} (h : MapIs w b (A ++ (k, v) :: B)) (hA : ∀ p ∈ A, p.1 ≠ k) (u : Value) :
    ∃ w', (Instr.mapUpdate 98 (.map (some b)) (.int .u64 k) u).run Try.prog w = .ok () w' ∧ MapIs w' b (A ++ (k, u) :: B) ∧ But w w' b := by
  obtain ⟨es, c, hh, he⟩ := h
  have hf := MapKept.run_findKey (P := Try.prog) (w := w) Try.underlying56 (find_hit k v B A es.toList 0 hA he)
  have hlt : b < w.heap.size := (Array.getElem?_eq_some_iff.1 hh).1
  have hlen : es.toList.length = A.length + 1 + B.length := by
    have := congrArg List.length he
    simp at this
    simp; omega
  have hg : (es.toList.map fun e => (e.key, e.val))[A.length]? = some (Value.int .u64 k, v) := by rw [he]; simp
  obtain ⟨e0, he0, hk0⟩ : ∃ e0, es[A.length]? = some e0 ∧ (e0.key, e0.val) = (Value.int .u64 k, v) := by
    rw [List.getElem?_map, Option.map_eq_some_iff] at hg
    obtain ⟨e0, h1, h2⟩ := hg
    exact ⟨e0, by simpa using h1, h2⟩
  have hk1 : e0.key = .int .u64 k := by simpa using congrArg Prod.fst hk0
  refine ⟨{ w with heap := w.heap.setIfInBounds b (.map (es.modify A.length fun e => { e with key := .int .u64 k, val := u }) c) }, ?_, ⟨es.modify A.length fun e => { e with key := .int .u64 k, val := u }, c, by simp [hlt], ?_⟩, but_set w b _⟩
  · simp [Instr.mapUpdate, run_underlying Try.underlying98, getObj, setObj, Sem.run, hh, check56, hf, Result.andThen, Instr.keyThatStays, he0, hk1, Instr.sameBits]
  · apply List.ext_getElem?
    intro i
    have hi := congrArg (fun l => l[i]?) he
    simp only [List.getElem?_map, Array.getElem?_toList, Array.getElem?_modify] at hi ⊢
    by_cases q : A.length = i
    · subst q
      rw [if_pos rfl, he0]
      simp
    · have e2 : (A ++ (k, v) :: B)[i]? = (A ++ (k, u) :: B)[i]? := by
        by_cases r : i < A.length
        · rw [List.getElem?_append_left r, List.getElem?_append_left r]
        · rw [List.getElem?_append_right (by omega), List.getElem?_append_right (by omega)]
          obtain ⟨d, hd⟩ : ∃ d, i - A.length = d + 1 := ⟨i - A.length - 1, by omega⟩
          rw [hd, List.getElem?_cons_succ, List.getElem?_cons_succ]
      rw [if_neg q, hi, e2]
theorem upd_miss {w : World} {b : Nat} {A : List (Int × Value)} {k : Int} (h : MapIs w b A) (hA : ∀ p ∈ A, p.1 ≠ k) (u : Value) :
    ∃ w', (Instr.mapUpdate 98 (.map (some b)) (.int .u64 k) u).run Try.prog w = .ok () w' ∧ MapIs w' b (A ++ [(k, u)]) ∧ But w w' b := by
  obtain ⟨es, c, hh, he⟩ := h
  have hf := MapKept.run_findKey (P := Try.prog) (w := w) Try.underlying56 (find_miss k A es.toList 0 hA he)
  have hlt : b < w.heap.size := (Array.getElem?_eq_some_iff.1 hh).1
  refine ⟨{ w with heap := w.heap.setIfInBounds b (.map (es.push { key := .int .u64 k, val := u, born := c }) (c + 1)) }, ?_, ⟨es.push { key := .int .u64 k, val := u, born := c }, c + 1, by simp [hlt], ?_⟩, but_set w b _⟩
  · simp [Instr.mapUpdate, run_underlying Try.underlying98, getObj, setObj, Sem.run, hh, check56, hf, Result.andThen]
  · simp [he]
theorem del_hit {w : World} {b : Nat} {A B : List (Int × Value)} {k : Int} {v : Value} (h : MapIs w b (A ++ (k, v) :: B)) (hA : ∀ p ∈ A, p.1 ≠ k) (ty : TypeId) :
    ∃ w', (Builtin.delete_ #[98, 56] ty #[.map (some b), .int .u64 k]).run Try.prog w = .ok (.tuple #[]) w' ∧ MapIs w' b (A ++ B) ∧ But w w' b := by
  obtain ⟨es, c, hh, he⟩ := h
  have hf := MapKept.run_findKey (P := Try.prog) (w := w) Try.underlying56 (find_hit k v B A es.toList 0 hA he)
  have hlt : b < w.heap.size := (Array.getElem?_eq_some_iff.1 hh).1
  refine ⟨{ w with heap := w.heap.setIfInBounds b (.map (es.eraseIdxIfInBounds (0 + A.length)) c) }, ?_, ⟨es.eraseIdxIfInBounds (0 + A.length), c, by simp [hlt], ?_⟩, but_set w b _⟩
  · simp [Builtin.delete_, run_underlying Try.underlying98, getObj, setObj, Sem.run, hh, check56, hf, Result.andThen]
  · have e1 : (es.eraseIdxIfInBounds (0 + A.length)).toList = es.toList.eraseIdx A.length := by
      rw [Nat.zero_add]
      unfold Array.eraseIdxIfInBounds
      split
      · simp
      · rw [List.eraseIdx_of_length_le (by simp; omega)]
    rw [e1, List.eraseIdx_eq_take_drop_succ, List.map_append, List.map_take, List.map_drop, he, ← List.map_take, ← List.map_drop, ← List.map_append]
    have e3 : (A ++ (k, v) :: B).take A.length = A := by simp
    have e4 : (A ++ (k, v) :: B).drop (A.length + 1) = B := by rw [List.drop_append]; simp
    rw [e3, e4]
theorem len_map {w : World} {b : Nat} {A : List (Int × Value)} (h : MapIs w b A) (ty : TypeId) : (Builtin.len_ #[98] ty #[.map (some b)]).run Try.prog w = .ok (.int .i64 A.length) w := by
  obtain ⟨es, c, hh, he⟩ := h
  have hl : es.size = A.length := by simpa using congrArg List.length he
  simp [Builtin.len_, run_underlying Try.underlying98, getObj, Sem.run, hh, Result.andThen, hl, goInt]
end Go.Proofs.Qxb6616202a.Prune
