import Derived.Test.Qxb6616202aPMap
import Derived.Test.Qxb6616202aPMath
import Derived.Test.Qxb6616202aPBefore
import Derived.Test.Qxb6616202aLaws
namespace Go.Proofs.Qxb6616202a.Prune
open Go.RowKit Go.Proofs.Qxb6616202a.Kit Go.Proofs.Qxb6616202a.Flow
set_option linter.unusedVariables false
set_option linter.unusedSimpArgs false

/-- 'x = append(x, v)' where x has room: one cell of x's own block is written. -/
theorem append_room {w : World} {ops : Array Oper} {rest : List Oper} {o : Oper} {a : Act} {Q : Exit → Act → World → Prop} (hgd : o.guard = none) (s x : Operand) (T E : TypeId) (k : IntKind) (bytes : Nat)
    (ho : o.op = .call { callee := .builtin .append, args := #[s, x], argTypes := #[T, T] }) (ht : Try.prog.underlying T = some (.slice E)) (hinfo : (Try.prog.info? E).map (fun i => (i.zero, i.size, i.bytes)) = some (some (.int k 0), 1, bytes))
    (g n c bx : Nat) (R : List Int) (v : Int) (hs : a.eval s = .slice (some ⟨g, 0, none⟩) n c) (hx : a.eval x = .slice (some ⟨bx, 0, none⟩) 1 1)
    (hg : w.heap[g]? = some (.cells (irow k R) E (0, 0))) (hR : R.length = c) (hv : w.cell? ⟨bx, 0, none⟩ = some (.int k v)) (hn : n < c)
    (h : ∀ w', w'.heap[g]? = some (.cells (irow k (R.set n v)) E (0, 0)) → But w w' g → wpList Try.prog ops Q rest (a.put o.dst (.slice (some ⟨g, 0, none⟩) (n + 1) c)) w') : wpList Try.prog ops Q (o :: rest) a w := by
  obtain ⟨i0, hi, hz0, hz1, hz2⟩ := info_parts hinfo
  refine wpList_plain hgd fun K hK => ?_
  have hnews : ∀ j u, ([Value.int k v] : List Value)[j]? = some u → w.cell? ((⟨bx, 0, none⟩ : Addr).add j) = some u := by
    intro j u hu
    cases j with
    | zero => simp at hu; subst hu; simpa [Addr.add] using hv
    | succ j => simp at hu
  have hr := run_append_room (P := Try.prog) w T o.type E i0 ht hi g n c (irow k R) hg ⟨bx, 0, none⟩ 1 1 [.int k v] (by simp [hz1]) hnews (by intro u hu; simp at hu; subst hu; rfl) (by omega) (by rw [hz1, irow_size]; simp; omega)
  have e : ((irow k R).toList.take (n * i0.size) ++ [Value.int k v] ++ (irow k R).toList.drop (n * i0.size + [Value.int k v].length)).toArray = irow k (R.set n v) := by
    rw [hz1]
    apply Array.ext'
    simp only [irow, Nat.mul_one, List.length_singleton]
    rw [List.set_eq_take_append_cons_drop, if_pos (by omega)]
    simp [List.map_take, List.map_drop]
  rw [e] at hr
  unfold Oper.wp
  simp only [execOp, ho, resolve, invoke, builtin, Sem.run_bind, Sem.run_pure, Result.andThen_ok, List.map_toArray, List.map_cons, List.map_nil, hs, hx, hr]
  exact hK _ _ (h _ (setRow_heap w g _ _ E _ hg) ⟨rfl, rfl, rfl, by simp, fun j hj => setRow_other w g j _ hj⟩)

/-- A lock's beginnings, as the map's entry has them. -/
structure Ent where
  lock : Int
  a : Option Addr
  g : Nat
  c : Nat
  xs : List Int
  row : List Int

def EntOk (w : World) (e : Ent) : Prop :=
  (e.xs = [] ∧ e.a = none ∧ e.c = 0) ∨ (e.xs ≠ [] ∧ e.a = some ⟨e.g, 0, none⟩ ∧ w.heap[e.g]? = some (.cells (irow .i64 e.row) 3 (0, 0)) ∧ e.row.length = e.c ∧ e.xs.length ≤ e.c ∧ e.row.take e.xs.length = e.xs)
theorem EntOk.same {w w' : World} {e : Ent} (h : EntOk w e) (hb : w'.heap[e.g]? = w.heap[e.g]?) : EntOk w' e := by
  rcases h with h | ⟨h0, h1, h2, h3⟩
  · exact .inl h
  · exact .inr ⟨h0, h1, hb.trans h2, h3⟩
def kvOf (id : Int) (e : Ent) : Int × Value := (sk id e.lock, .slice e.a e.xs.length e.c)

/-- The beginnings kept among the first j. -/
def kl (nk nl nr il sl : List Int) (x : Int) (xs : List Int) (j : Nat) : List Int := ((List.range j).filter (keep nk nl nr il sl x xs)).map fun i => xs.getD i 0
theorem kl_zero (nk nl nr il sl : List Int) (x : Int) (xs : List Int) : kl nk nl nr il sl x xs 0 = [] := rfl
theorem kl_yes {nk nl nr il sl : List Int} {x : Int} {xs : List Int} {j : Nat} (h : keep nk nl nr il sl x xs j = true) : kl nk nl nr il sl x xs (j + 1) = kl nk nl nr il sl x xs j ++ [xs.getD j 0] := by
  unfold kl; rw [List.range_succ, List.filter_append, List.map_append]; simp [List.filter_cons, h]
theorem kl_no {nk nl nr il sl : List Int} {x : Int} {xs : List Int} {j : Nat} (h : keep nk nl nr il sl x xs j = false) : kl nk nl nr il sl x xs (j + 1) = kl nk nl nr il sl x xs j := by
  unfold kl; rw [List.range_succ, List.filter_append, List.map_append]; simp [List.filter_cons, h]
theorem kl_le (nk nl nr il sl : List Int) (x : Int) (xs : List Int) (j : Nat) : (kl nk nl nr il sl x xs j).length ≤ j := by
  unfold kl; rw [List.length_map]; have := List.length_filter_le (keep nk nl nr il sl x xs) (List.range j); simpa using this
def filt (nk nl nr il sl : List Int) (e : Ent) : List Int := kl nk nl nr il sl e.lock e.xs e.xs.length
/-- What pruning makes of an entry. -/
def proc (nk nl nr il sl : List Int) (e : Ent) : Option Ent :=
  if filt nk nl nr il sl e = [] then none else some { e with xs := filt nk nl nr il sl e, row := filt nk nl nr il sl e ++ e.row.drop (filt nk nl nr il sl e).length }
theorem row_step (K R : List Int) (v : Int) (h : K.length < R.length) : (K ++ R.drop K.length).set K.length v = (K ++ [v]) ++ R.drop (K ++ [v]).length := by
  rw [List.set_append_right _ _ (Nat.le_refl _), Nat.sub_self]
  have e : R.drop K.length = R[K.length] :: R.drop (K.length + 1) := List.drop_eq_getElem_cons h
  rw [e, List.set_cons_zero, List.append_assoc]; simp
theorem row_get (K R xs : List Int) (j : Nat) (hK : K.length ≤ j) (hj : j < xs.length) (hR : R.take xs.length = xs) (hl : xs.length ≤ R.length) : (K ++ R.drop K.length).getD j 0 = xs.getD j 0 := by
  simp only [List.getD_eq_getElem?_getD]
  rw [List.getElem?_append_right hK, List.getElem?_drop, show K.length + (j - K.length) = j by omega]
  have : xs[j]? = (R.take xs.length)[j]? := by rw [hR]
  rw [this, List.getElem?_take, if_pos hj]

/-- Where things lie: the two structs, the map, the trees, the items, the row of locks. -/
structure Geo where
  base : Nat
  bS : Nat
  bL : Nat
  bM : Nat
  bH : Nat
  bN : Nat
  bI : Nat
  gK : Nat
  cK : Nat
  aK : Option Addr
  id : Int
  lv : Int
  dd : Int
  nk : List Int
  nl : List Int
  nr : List Int
  il : List Int
  sl : List Int
  ext : Nat → Prop
def Geo.stat (G : Geo) (b : Nat) : Prop := b = G.bS ∨ b = G.bH ∨ b = G.bN ∨ b = G.bI ∨ G.ext b
/-- The memory that only reads. -/
structure Stat (G : Geo) (w : World) : Prop where
  s0 : w.cell? ⟨G.bS, 0, none⟩ = some (.pointer (some ⟨G.bH, 0, none⟩))
  s3 : w.cell? ⟨G.bS, 3, none⟩ = some (.map (some G.bM))
  h0 : w.cell? ⟨G.bH, 0, none⟩ = some (.slice (some ⟨G.bN, 0, none⟩) G.nk.length G.nk.length)
  nodes : Nodes w G.bN G.nk G.nl G.nr
  items : Items w G.bI G.il G.sl
  ltN : G.bN < w.heap.size
  ltI : G.bI < w.heap.size
  ltE : ∀ b, G.ext b → b < w.heap.size
theorem Stat.same {G : Geo} {w w' : World} (h : Stat G w) (hb : ∀ b, G.stat b → w'.heap[b]? = w.heap[b]?) (hs : w.heap.size ≤ w'.heap.size) : Stat G w' := by
  have c : ∀ b o, G.stat b → w'.cell? ⟨b, o, none⟩ = w.cell? ⟨b, o, none⟩ := fun b o hbs => World.cell?_of_block (a := ⟨b, o, none⟩) (hb b hbs)
  have eS := fun o => c G.bS o (.inl rfl)
  have eH := fun o => c G.bH o (.inr (.inl rfl))
  have eN := fun o => c G.bN o (.inr (.inr (.inl rfl)))
  have eI := fun o => c G.bI o (.inr (.inr (.inr (.inl rfl))))
  refine ⟨(eS 0).trans h.s0, (eS 3).trans h.s3, (eH 0).trans h.h0, fun i hi => ?_, fun i hi => ?_, Nat.lt_of_lt_of_le h.ltN hs, Nat.lt_of_lt_of_le h.ltI hs, fun b hb => Nat.lt_of_lt_of_le (h.ltE b hb) hs⟩
  · have q := h.nodes i hi
    exact ⟨by rw [eN]; exact q.c0, by rw [eN]; exact q.c1, by rw [eN]; exact q.c2, by rw [eN]; exact q.c3, by rw [eN]; exact q.c4⟩
  · have q := h.items i hi
    exact ⟨by rw [eI]; exact q.c0, by rw [eI]; exact q.c1, by rw [eI]; exact q.c2, by rw [eI]; exact q.c3, by rw [eI]; exact q.c4, by rw [eI]; exact q.c5, by rw [eI]; exact q.c6, by rw [eI]; exact q.c7, by rw [eI]; exact q.c8, by rw [eI]; exact q.c9, by rw [eI]; exact q.c10, by rw [eI]; exact q.c11, by rw [eI]; exact q.c12, by rw [eI]; exact q.c13⟩

def lobj (G : Geo) (n : Nat) (st pr : Int) : Obj := .cells #[.int .i32 G.id, .slice (some ⟨G.bI, 0, none⟩) G.il.length G.il.length, .int .i64 G.lv, .int .i64 G.dd, .slice G.aK n G.cK, .int .i64 st, .int .i64 pr] 105 (0, 0)

/-- No block has two uses. -/
structure Apart (G : Geo) (E : List Ent) : Prop where
  ls : ¬ G.stat G.bL
  ms : ¬ G.stat G.bM
  ks : ¬ G.stat G.gK
  lm : G.bL ≠ G.bM
  lk : G.bL ≠ G.gK
  mg : G.bM ≠ G.gK
  bl : G.base ≤ G.bL
  bm : G.base ≤ G.bM
  bk : G.base ≤ G.gK
  es : ∀ e ∈ E, e.xs ≠ [] → ¬ G.stat e.g ∧ e.g ≠ G.bL ∧ e.g ≠ G.bM ∧ e.g ≠ G.gK ∧ G.base ≤ e.g
  ee : E.Pairwise fun e f => e.xs ≠ [] → f.xs ≠ [] → e.g ≠ f.g

/-- The two structs as they stand between two prunes. -/
structure PState (G : Geo) (w : World) (E : List Ent) (st pr : Int) (rk : List Int) : Prop where
  stat : Stat G w
  hL : w.heap[G.bL]? = some (lobj G E.length st pr)
  hM : MapIs w G.bM (E.map (kvOf G.id))
  hE : ∀ e ∈ E, EntOk w e
  hK : E ≠ [] → G.aK = some ⟨G.gK, 0, none⟩ ∧ w.heap[G.gK]? = some (.cells (irow .i32 rk) 21 (0, 0)) ∧ rk.length = G.cK ∧ E.length ≤ G.cK ∧ rk.take E.length = E.map (·.lock)
  ap : Apart G E
  keys : (E.map (·.lock)).Nodup
  bd : ∀ e ∈ E, -2147483648 ≤ e.lock ∧ e.lock ≤ 2147483647
  up : ∀ e ∈ E, Rising e.xs
  sm : (E.map fun e => e.xs.length).sum ≤ 65536
  ln : E.length ≤ 4096
end Go.Proofs.Qxb6616202a.Prune
