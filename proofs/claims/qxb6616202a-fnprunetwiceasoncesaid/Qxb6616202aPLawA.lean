import Derived.Test.Qxb6616202aPSmall
import Derived.Test.Qxb6616202aPLaw
import Derived.Test.Qxb6616202aPNewW
import Derived.Laws.AppendOwnNone
import Derived.Laws.CopyOwn
namespace Go.Proofs.Qxb6616202a.Prune
open Go.RowKit Go.Proofs.Qxb6616202a.Kit Go.Proofs.Qxb6616202a.Flow
set_option linter.unusedVariables false
set_option linter.unusedSimpArgs false

/-! Rows of ints, as the i32 laws of Laws have them. -/
def zrow64 (c : Nat) : Array Value := irow .i64 (List.replicate c 0)
theorem make64 (c : Nat) (hc : c ≤ 1000000) (w : World) :
    (Instr.makeSlice 39 (.int .i64 (c : Int)) (.int .i64 (c : Int))).run Try.prog w = .ok (.slice (some ⟨w.heap.size, 0, none⟩) c c) (w.alloc (.cells (zrow64 c) 3)) := by
  obtain ⟨i0, hi, hz0, hz1, hz2⟩ := info_parts Try.info3
  have h := run_make (P := Try.prog) w 39 3 i0 (.int .i64 0) Try.underlying39 hi hz0 .i64 .i64 c c (by omega) (by omega) (by rw [hz2]; omega) (by omega)
  rw [hz1, Nat.mul_one, Int.toNat_natCast, made_zero] at h
  exact h
theorem copy_step64 {w0 w : World} {ops : Array Oper} {rest : List Oper} {o : Oper} {a : Act} {Q : Exit → Act → World → Prop} (hgd : o.guard = none) (d s : Operand)
    (ho : o.op = .call { callee := .builtin .copy, args := #[d, s], argTypes := #[39, 39] }) (xs : List Int) (m : Nat) (hm : xs.length = m) (aS : Option Addr) (cS g : Nat)
    (hd : a.eval d = .slice (some ⟨g, 0, none⟩) m m) (hs : a.eval s = .slice aS m cS)
    (hg : w.heap[g]? = some (.cells (zrow64 m) 3 (0, 0))) (hr : Rd .i64 w aS xs) (B : Nat) (hb : Below B w0 w) (hBg : B ≤ g)
    (h : ∀ w', Blk .i64 3 w' g xs → Below B w0 w' → wpList Try.prog ops Q rest (a.put o.dst (goInt m)) w') : wpList Try.prog ops Q (o :: rest) a w := by
  subst hm
  have hcl : (xs.map (Value.int .i64)).length = xs.length := by simp
  refine wpList_copy_splice hgd d s 39 39 ho 3 Try.underlying39 (by kernel_rfl) (some ⟨g, 0, none⟩) aS xs.length xs.length xs.length cS hd hs g 0 ((List.replicate xs.length (0 : Int)).map (Value.int .i64)) 3 hg (xs.map (Value.int .i64)) (by simp)
    (fun hp => ⟨rfl, ?_⟩) (by simp) (ints_one _ _) B w0 hb hBg ?_
  · cases aS with
    | none => have := Rd.none_nil hr; subst this; simp at hp
    | some ad => exact ⟨ad, rfl, hr.news⟩
  · intro w' hh hb'
    rw [hcl]
    refine h w' ?_ hb'
    have e : splice ((List.replicate xs.length (0 : Int)).map (Value.int .i64)) 0 (xs.map (Value.int .i64)) = xs.map (Value.int .i64) := by
      simp [splice]
    have := hh.out
    rw [e] at this
    exact this
theorem append_rd64 {w0 w : World} {ops : Array Oper} {rest : List Oper} {o : Oper} {a : Act} {Q : Exit → Act → World → Prop} (hgd : o.guard = none) (s x : Operand)
    (ho : o.op = .call { callee := .builtin .append, args := #[s, x], argTypes := #[39, 39] }) (base : Nat) (v : Value) (n : Nat) (ws : List Int) (hs : a.eval s = v)
    (hown : w.ownsRow base 3 1 v n (ws.map (Value.int .i64))) (aS : Option Addr) (m c : Nat) (news : List Int) (hx : a.eval x = .slice aS m c) (hl : news.length = m) (hr : Rd .i64 w aS news) (hn0 : aS = none → c = 0)
    (hnm : n + m ≤ 1000000) (hb : Below base w0 w) (hB : base ≤ w.heap.size)
    (h : ∀ v' w', w'.ownsRow base 3 1 v' (n + m) ((ws ++ news).map (Value.int .i64)) → Below base w0 w' → base ≤ w'.heap.size → wpList Try.prog ops Q rest (a.put o.dst v') w') : wpList Try.prog ops Q (o :: rest) a w := by
  obtain ⟨i0, hi, hz0, hz1, hz2⟩ := info_parts Try.info3
  cases aS with
  | none =>
    have := Rd.none_nil hr
    subst this
    obtain rfl : m = 0 := by simpa using hl.symm
    obtain rfl := hn0 rfl
    refine wpList_append_own_none hgd s x 39 ho base 3 i0 1 Try.underlying39 hi v n _ hs hown hx ?_
    exact h v w (by simpa using hown) hb hB
  | some ad =>
    refine wpList_append_own w hgd s x 39 ho base 3 i0 (.int .i64 0) 1 8 Try.underlying39 hi hz0 hz1 hz2 rfl (by decide) v n _ hs hown ad m c (news.map (Value.int .i64)) hx (by simp [hl]) hr.news (ints_one _ _) (by unfold maxLen; omega) (by omega) hB ?_
    intro v' w' ho' hg _
    refine h v' w' (by simpa using ho') (hb.grown hg hB fun k hk => (hown.lt k hk).1) (Nat.le_trans hB hg.size)
/-- A slice that came in, or its copy. -/
def CutK (k : IntKind) (w wx : World) (xs : List Int) (v : Value) : Prop := ∃ a c, v = .slice a xs.length c ∧ Rd k wx a xs ∧ Below w.heap.size w wx

/-! What is seen of the two structs between the prunes. -/
structure Seen (G : Geo) (w : World) (D : List Ent) : Prop where
  hL : w.heap[G.bL]? = some (lobj G D.length (sumL D) (sumL D))
  s3 : w.cell? ⟨G.bS, 3, none⟩ = some (.map (some G.bM))
  hM : MapIs w G.bM (D.map (kvOf G.id))
  hE : ∀ e ∈ D, EntOk w e
  hK : Rd .i32 w G.aK (D.map (·.lock))
theorem Seen.below {G : Geo} {w w' : World} {D : List Ent} (h : Seen G w D) (hb : Below w.heap.size w w') : Seen G w' D := by
  refine ⟨(hb.block _ (obj_lt h.hL)).trans h.hL, Below.seen hb (cell_lt h.s3) h.s3, h.hM.same (hb.block _ h.hM.lt), fun e he => ?_, h.hK.below hb⟩
  refine (h.hE e he).keep fun hx => hb.block _ ?_
  rcases h.hE e he with r | r
  · exact absurd r.1 hx
  · exact obj_lt r.2.2.1
theorem PState.seen {G : Geo} {w : World} {D : List Ent} {rk : List Int} (h : PState G w D (sumL D) (sumL D) rk) : Seen G w D := by
  refine ⟨h.hL, h.stat.s3, h.hM, h.hE, ?_⟩
  intro j hj
  have hn : D ≠ [] := by rintro rfl; simp at hj
  obtain ⟨k1, k2, k3, k4, k5⟩ := h.hK hn
  have hj' : j < D.length := by simpa using hj
  refine ⟨G.gK, 0, k1, ?_⟩
  rw [Nat.zero_add, cell_of_row _ _ _ _ _ _ k2, irow_get _ _ _ (by omega)]
  congr 2
  have := congrArg (fun l => l.getD j 0) k5
  simp only [List.getD_eq_getElem?_getD, List.getElem?_take, if_pos hj'] at this ⊢
  exact this
theorem PState.below {G : Geo} {w w' : World} {E : List Ent} {st pr : Int} {rk : List Int} (h : PState G w E st pr rk) (hb : Below w.heap.size w w') : PState G w' E st pr rk := by
  refine { h with stat := ?_, hL := (hb.block _ (obj_lt h.hL)).trans h.hL, hM := h.hM.same (hb.block _ h.hM.lt), hE := fun e he => ?_, hK := fun hn => ?_ }
  · refine h.stat.same (fun b hbs => hb.block b ?_) hb.size
    rcases hbs with rfl | rfl | rfl | rfl | hbs
    · exact cell_lt h.stat.s0
    · exact cell_lt h.stat.h0
    · exact h.stat.ltN
    · exact h.stat.ltI
    · exact h.stat.ltE b hbs
  · refine (h.hE e he).keep fun hx => hb.block _ ?_
    rcases h.hE e he with r | r
    · exact absurd r.1 hx
    · exact obj_lt r.2.2.1
  · obtain ⟨k1, k2, k3⟩ := h.hK hn
    exact ⟨k1, (hb.block _ (obj_lt k2)).trans k2, k3⟩
/-- The same geometry, with what has come since held fast. -/
def Geo.prot (G : Geo) (w0 w : World) (D : List Ent) : Geo := { G with ext := fun b => w0.heap.size ≤ b ∧ b < w.heap.size, gK := if D = [] then w.heap.size else G.gK }
theorem PState.prot {G : Geo} {w0 w : World} {D : List Ent} {st pr : Int} {rk : List Int} (h : PState G w0 D st pr rk) (hb : Below w0.heap.size w0 w) : PState (G.prot w0 w D) w D st pr rk := by
  have h' := h.below hb
  have hL := obj_lt h.hL
  have hM := h.hM.lt
  have hsz := hb.size
  have hS := cell_lt h.stat.s0
  have hH := cell_lt h.stat.h0
  have hN := h.stat.ltN
  have hI := h.stat.ltI
  have hK : D ≠ [] → G.gK < w0.heap.size := fun hn => obj_lt (h.hK hn).2.1
  have hg : ∀ e ∈ D, e.xs ≠ [] → e.g < w0.heap.size := by
    intro e he hx
    rcases h.hE e he with r | r
    · exact absurd r.1 hx
    · exact obj_lt r.2.2.1
  have ap := h.ap
  have st : ∀ b, b < w0.heap.size → (G.prot w0 w D).stat b → G.stat b := by
    intro b hbl q
    rcases q with q | q | q | q | q
    · exact .inl q
    · exact .inr (.inl q)
    · exact .inr (.inr (.inl q))
    · exact .inr (.inr (.inr (.inl q)))
    · exact absurd q.1 (by omega)
  have gk : (G.prot w0 w D).gK = if D = [] then w.heap.size else G.gK := rfl
  have gkc : (D = [] ∧ (G.prot w0 w D).gK = w.heap.size) ∨ (D ≠ [] ∧ (G.prot w0 w D).gK = G.gK) := by
    by_cases c : D = []
    · left; exact ⟨c, by rw [gk, if_pos c]⟩
    · right; exact ⟨c, by rw [gk, if_neg c]⟩
  refine ⟨⟨h'.stat.s0, h'.stat.s3, h'.stat.h0, h'.stat.nodes, h'.stat.items, h'.stat.ltN, h'.stat.ltI, fun b hbb => hbb.2⟩, h'.hL, h'.hM, h'.hE, ?_, ?_, h.keys, h.bd, h.up, h.sm, h.ln⟩
  · intro hn
    obtain ⟨k1, k2, k3⟩ := h'.hK hn
    have e : (G.prot w0 w D).gK = G.gK := by rw [gk, if_neg hn]
    rw [e]
    exact ⟨k1, k2, k3⟩
  · refine ⟨fun q => ap.ls (st _ hL q), fun q => ap.ms (st _ hM q), ?_, ap.lm, ?_, ?_, ap.bl, ap.bm, ?_, ?_, ap.ee⟩
    · rcases gkc with ⟨c, e⟩ | ⟨c, e⟩
      · rw [e]
        rintro (q | q | q | q | q)
        · have : w.heap.size = G.bS := q
          omega
        · have : w.heap.size = G.bH := q
          omega
        · have : w.heap.size = G.bN := q
          omega
        · have : w.heap.size = G.bI := q
          omega
        · have := q.2
          omega
      · rw [e]
        exact fun q => ap.ks (st _ (hK c) q)
    · show G.bL ≠ _
      rcases gkc with ⟨c, e⟩ | ⟨c, e⟩
      · rw [e]; omega
      · rw [e]; exact ap.lk
    · show G.bM ≠ _
      rcases gkc with ⟨c, e⟩ | ⟨c, e⟩
      · rw [e]; omega
      · rw [e]; exact ap.mg
    · show G.base ≤ _
      have := ap.bl
      rcases gkc with ⟨c, e⟩ | ⟨c, e⟩
      · rw [e]; omega
      · rw [e]; exact ap.bk
    · intro e he hx
      obtain ⟨x1, x2, x3, x4, x5⟩ := ap.es e he hx
      have := hg e he hx
      refine ⟨fun q => x1 (st _ this q), x2, x3, ?_, x5⟩
      rcases gkc with ⟨c, ee⟩ | ⟨c, ee⟩
      · rw [ee]; omega
      · rw [ee]; exact x4
/-- The second prune: what was seen is seen, and what has come since the first stands. -/
def Prune2 (G : Geo) (w0 w : World) (D : List Ent) (e : Ending) (w' : World) : Prop :=
  e = .returned (.tuple #[]) ∧ Below G.base w w' ∧ (∀ b, w0.heap.size ≤ b → b < w.heap.size → w'.heap[b]? = w.heap[b]?) ∧ Seen G w' D
theorem prune2_any (G : Geo) (hG : Good G) (w0 w : World) (D : List Ent) (st pr : Int) (rk : List Int) (h : PState G w0 D st pr rk) (hb : Below w0.heap.size w0 w) (hd : G.done D D.length = D) :
    Calls Try.prog 20 #[.pointer (some ⟨G.bS, 0, none⟩), .pointer (some ⟨G.bL, 0, none⟩)] w (Prune2 G w0 w D) := by
  have hG' : Good (G.prot w0 w D) := ⟨hG.rise, hG.tree, hG.sets, hG.mI, hG.mN, hG.i1, hG.i2⟩
  have hc := zprune_any (G.prot w0 w D) hG' w D st pr rk (h.prot hb)
  refine Calls.mono hc ?_
  rintro e w' ⟨he, h1, h2, rk', h3⟩
  have hd' : (G.prot w0 w D).done D D.length = D := hd
  rw [hd'] at h3
  have s := h3.seen
  exact ⟨he, h1, fun b b1 b2 => h2 b (.inr (.inr (.inr (.inr ⟨b1, b2⟩)))), ⟨s.hL, s.s3, s.hM, s.hE, s.hK⟩⟩

/-! The beginnings of lock i. -/
def fOf (G : Geo) (E : List Ent) (i : Nat) : List Int := match E[i]? with | some e => G.filt e | none => []
theorem fOf_lt {G : Geo} {E : List Ent} {i : Nat} (h : i < E.length) : fOf G E i = G.filt E[i] := by unfold fOf; rw [List.getElem?_eq_getElem h]
theorem snap_step {G : Geo} {E : List Ent} {i : Nat} (h : i < E.length) : snapOf G E (i + 1) = snapOf G E i ++ fOf G E i := by rw [snap_succ h, fOf_lt h]
theorem EntOk.rd {w : World} {e : Ent} (h : EntOk w e) : Rd .i64 w e.a e.xs := by
  intro j hj
  rcases h with h | ⟨h0, h1, h2, h3, h4, h5⟩
  · rw [h.1] at hj; simp at hj
  · refine ⟨e.g, 0, h1, ?_⟩
    rw [Nat.zero_add, cell_of_row _ _ _ _ _ _ h2, irow_get _ _ _ (by omega)]
    congr 2
    have := congrArg (fun l => l.getD j 0) h5
    simp only [List.getD_eq_getElem?_getD, List.getElem?_take, if_pos hj] at this ⊢
    exact this
def has (xs : List Int) : Bool := !xs.isEmpty
theorem beg_any {G : Geo} {E : List Ent} (hk : (E.map (·.lock)).Nodup) (bd : ∀ e ∈ E, -2147483648 ≤ e.lock ∧ e.lock ≤ 2147483647) {i : Nat} (hi : i < E.length) :
    ∃ a c, (∀ w, Seen G w (G.done E E.length) → Calls Try.prog 24 #[.pointer (some ⟨G.bS, 0, none⟩), .int .u64 (sk G.id E[i].lock)] w (BegTo w (.slice a (fOf G E i).length c) (has (fOf G E i))) ∧ Rd .i64 w a (fOf G E i)) ∧ (a = none → c = 0) := by
  rw [fOf_lt hi]
  by_cases c : G.filt E[i] = []
  · refine ⟨none, 0, fun w hs => ⟨?_, ?_⟩, fun _ => rfl⟩
    · rw [c]
      exact beg_miss G w _ _ hs.s3 hs.hM (look_no hk bd hi c)
    · rw [c]; intro j hj; simp at hj
  · obtain ⟨A, B, h1, h2, h3⟩ := look_yes hk bd hi c
    have hb : has (G.filt E[i]) = true := by unfold has; cases hq : G.filt E[i] with | nil => exact absurd hq c | cons _ _ => rfl
    by_cases hw : ∃ w, Seen G w (G.done E E.length)
    · obtain ⟨w0, hs0⟩ := hw
      refine ⟨E[i].a, E[i].c, fun w hs => ⟨?_, (hs.hE _ h3).rd⟩, fun h => ?_⟩
      · have hm := hs.hM
        rw [h1] at hm
        rw [hb]; exact beg_hit G w A B _ _ _ _ hs.s3 hm h2
      · rcases hs0.hE _ h3 with r | r
        · exact r.2.2
        · have : E[i].a = some ⟨(G.kept E[i]).g, 0, none⟩ := r.2.1
          rw [h] at this; cases this
    · exact ⟨none, 0, fun w hs => absurd ⟨w, hs⟩ hw, fun _ => rfl⟩

theorem new_any' (nk nl nr : List Int) (id : Int) (lk : List Int) (Ls : List (List Int)) (il sl : List Int) (st pr : Int) (a0 a1 a2 a4 a5 a6 a7 : Option Addr) (c0 c1 c2 c4 c5 c6 c7 : Nat) (w : World)
    (h0 : Rd .i32 w a0 nk) (h1 : Rd .i32 w a1 nl) (h2 : Rd .i32 w a2 nr) (h4 : Rd .i32 w a4 lk) (h5 : RdL w a5 Ls) (h6 : Rd .i64 w a6 il) (h7 : Rd .i32 w a7 sl)
    (m0 : nk.length ≤ 8192) (m4 : lk.length ≤ 4096) (m6 : il.length ≤ 8192) (hid : -2147483648 ≤ id ∧ id ≤ 2147483647) (hlk : ∀ x ∈ lk, -2147483648 ≤ x ∧ x ≤ 2147483647) (hD : Dom nk nl nr lk Ls il sl) (hsum : offs Ls Ls.length ≤ 65536) :
    Calls Try.prog 19 #[.slice a0 nk.length c0, .slice a1 nl.length c1, .slice a2 nr.length c2, .int .i32 id, .slice a4 lk.length c4, .slice a5 Ls.length c5, .slice a6 il.length c6, .slice a7 sl.length c7, .int .i64 st, .int .i64 pr] w
      (NewTo w nk nl nr id lk Ls il sl st pr) := by
  have hnd : lk.Nodup := by
    refine List.pairwise_iff_getElem.2 fun i j hi hj hij => ?_
    have := hD.locks j i hij hj
    simpa [List.getD, hi, hj] using this
  have hc := new_any nk nl nr id lk Ls il sl st pr a0 a1 a2 a4 a5 a6 a7 c0 c1 c2 c4 c5 c6 c7 w h0 h1 h2 h4 h5 h6 h7 m0 hD.l1 hD.l2 m4 hD.l3 m6 hD.l4 hid hlk hnd (fun i hi => hD.lines i (by rw [← hD.l3]; exact hi)) hsum
  have e1 := hD.l1
  have e2 := hD.l2
  have e3 := hD.l3
  have e4 := hD.l4
  rw [e1, e2, e3, e4]
  exact hc

def BytesTo (Ls : List (List Int)) (w : World) (e : Ending) (w' : World) : Prop := (∃ b, e = .returned (.bool b) ∧ (b = true → ∀ i, i < Ls.length → (Ls.getD i []).length ≤ 1048576)) ∧ w' = w
theorem BytesTo.no {Ls : List (List Int)} {w : World} : BytesTo Ls w (.returned (.bool false)) w := ⟨⟨false, rfl, fun h => by cases h⟩, rfl⟩
set_option maxHeartbeats 1000000 in
theorem bytes17 (id st pr : Int) (a0 a1 a2 a4 a5 a6 a7 : Option Addr) (l0 l1 l2 l4 l6 l7 c0 c1 c2 c4 c5 c6 c7 : Nat) (Ls : List (List Int)) (w : World) (h0 : l0 ≤ maxLen) (h1 : l1 ≤ maxLen) (h2 : l2 ≤ maxLen) (h4 : l4 ≤ maxLen) (h6 : l6 ≤ maxLen) (h7 : l7 ≤ maxLen) (h5 : Ls.length ≤ maxLen) (hr : RdL w a5 Ls) (hm : ∀ i, i < Ls.length → (Ls.getD i []).length ≤ maxLen) :
    Calls Try.prog 17 #[.slice a0 l0 c0, .slice a1 l1 c1, .slice a2 l2 c2, .int .i32 id, .slice a4 l4 c4, .slice a5 Ls.length c5, .slice a6 l6 c6, .slice a7 l7 c7, .int .i64 st, .int .i64 pr] w (BytesTo Ls w) := by
  unfold maxLen at h0 h1 h2 h4 h5 h6 h7
  have HR := hide hr
  have HM := hide hm
  clear hr hm
  go_enter Try.func17, Try.ntmps17
  go_wp2
  any_goals (go_ret; exact BytesTo.no)
  go_loop [21, 22] (fun z i => ∃ (k : Nat) (n : Int), k ≤ Ls.length ∧ i = .int .i64 k ∧ z = .int .i64 n ∧ 0 ≤ n ∧ n ≤ 1048576 ∧ ∀ i, i < k → (Ls.getD i []).length ≤ 1048576) (fun _ i => Ls.length - (intOf i).toNat)
  case atStart => exact ⟨0, _, Nat.zero_le _, rfl, rfl, by omega, by omega, fun i hi => by omega⟩
  case round =>
    obtain ⟨k, n, hk, rfl, rfl, hn0, hn1, hall⟩ := hrel
    have HA := hide hall
    clear hall
    by_cases hlt : k < Ls.length
    · obtain ⟨b, o, ai, ci, rfl, hc, _⟩ := HR.out k hlt
      have hml := HM.out k hlt
      unfold maxLen at hml
      obtain ⟨m, hm⟩ : ∃ m, (Ls.getD k []).length = m := ⟨_, rfl⟩
      rw [hm] at hml hc
      have HMM := hide hm
      clear hm
      go_wp2
      any_goals (go_ret; exact BytesTo.no)
      go_round
      case rel =>
        refine ⟨k + 1, _, by omega, by go_num, rfl, by omega, by omega, fun i hi => ?_⟩
        by_cases c : i = k
        · subst c; rw [HMM.out]; omega
        · exact HA.out i (by omega)
      case measure => simp [intOf]; omega
    · obtain rfl : k = Ls.length := by omega
      go_wp2
      all_goals (go_ret; first | exact BytesTo.no | exact ⟨⟨true, rfl, fun _ => HA.out⟩, rfl⟩)
end Go.Proofs.Qxb6616202a.Prune
