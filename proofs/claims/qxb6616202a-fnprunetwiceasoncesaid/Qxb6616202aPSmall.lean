import Derived.Test.Qxb6616202aPWalk
namespace Go.Proofs.Qxb6616202a.Prune
open Go.RowKit Go.Proofs.Qxb6616202a.Kit Go.Proofs.Qxb6616202a.Flow
set_option linter.unusedVariables false
set_option linter.unusedSimpArgs false

theorem zprune_any (G : Geo) (hG : Good G) (w : World) (E : List Ent) (st pr : Int) (rk : List Int) (h : PState G w E st pr rk) :
    Calls Try.prog 20 #[.pointer (some ⟨G.bS, 0, none⟩), .pointer (some ⟨G.bL, 0, none⟩)] w (PruneTo G w E) := by
  go_enter Try.func20, Try.ntmps20
  go_wp2_with fail
  refine (prune_any G hG w E st pr rk h).mono ?_
  rintro e w' ⟨rfl, h1⟩
  have H1 := hide h1
  clear h1
  go_wp2_with fail
  go_end0
  exact ⟨rfl, H1.out⟩

theorem locks_any (G : Geo) (w : World) (n : Nat) (st pr : Int) (h : w.heap[G.bL]? = some (lobj G n st pr)) :
    Calls Try.prog 21 #[.pointer (some ⟨G.bL, 0, none⟩)] w fun e w' => e = .returned (.slice G.aK n G.cK) ∧ w' = w := by
  obtain ⟨l0, l1, l2, l3, l4, l5, l6⟩ := lobj_cells h
  clear h
  go_enter Try.func21, Try.ntmps21
  go_wp2_with fail
  go_ret
  exact ⟨rfl, rfl⟩

theorem results_tmp6 {fn : Func} {a b c d e f : Tmp} (h : fn.results = #[.tmp a, .tmp b, .tmp c, .tmp d, .tmp e, .tmp f]) (tmps : Array Value) (P : Program) (w : World) :
    (results fn tmps).run P w = .ok (.tuple #[tmps.getD a undef, tmps.getD b undef, tmps.getD c undef, tmps.getD d undef, tmps.getD e undef, tmps.getD f undef]) w := by
  simp [results, h]
def CountsTo (G : Geo) (w : World) (st pr : Int) (e : Ending) (w' : World) : Prop :=
  e = .returned (.tuple #[.int .i64 st, .int .i64 pr, .int .i64 G.lv, .int .i64 G.dd, .int .i32 G.id, .int .i64 G.il.length]) ∧ ∃ q, w' = w.drewN q
theorem counts_any (G : Geo) (w : World) (n : Nat) (st pr : Int) (h : w.heap[G.bL]? = some (lobj G n st pr)) :
    Calls Try.prog 22 #[.pointer (some ⟨G.bL, 0, none⟩)] w (CountsTo G w st pr) := by
  obtain ⟨l0, l1, l2, l3, l4, l5, l6⟩ := lobj_cells h
  clear h
  go_enter Try.func22, Try.ntmps22
  go_upto_region 1 with fail
  go_quiet (fail)
  go_wp2_with fail
  (try simp only [Exit.inBlock, Exit.then])
  refine bodyPost_ret (results_tmp6 rfl _ _ _) rfl ?_
  exact ⟨rfl, _, rfl⟩

theorem blen_any (G : Geo) (w : World) (kv : List (Int × Value)) (h3 : w.cell? ⟨G.bS, 3, none⟩ = some (.map (some G.bM))) (hm : MapIs w G.bM kv) :
    Calls Try.prog 23 #[.pointer (some ⟨G.bS, 0, none⟩)] w fun e w' => e = .returned (.int .i64 kv.length) ∧ w' = w := by
  have hlen := fun ty => len_map hm ty
  clear hm
  go_enter Try.func23, Try.ntmps23
  go_wp2_with fail
  go_ret
  exact ⟨rfl, rfl⟩

def BegTo (w : World) (v : Value) (b : Bool) (e : Ending) (w' : World) : Prop := e = .returned (.tuple #[v, .bool b]) ∧ w' = w
theorem beg_hit (G : Geo) (w : World) (A B : List (Int × Value)) (k : Int) (a : Option Addr) (n c : Nat) (h3 : w.cell? ⟨G.bS, 3, none⟩ = some (.map (some G.bM))) (hm : MapIs w G.bM (A ++ (k, .slice a n c) :: B)) (hA : ∀ p ∈ A, p.1 ≠ k) :
    Calls Try.prog 24 #[.pointer (some ⟨G.bS, 0, none⟩), .int .u64 k] w (BegTo w (.slice a n c) true) := by
  have hl := look_hit hm hA true
  simp only [if_true] at hl
  clear hm hA
  go_enter Try.func24, Try.ntmps24
  go_wp2_with fail
  go_ret2
  exact ⟨rfl, rfl⟩
theorem beg_miss (G : Geo) (w : World) (A : List (Int × Value)) (k : Int) (h3 : w.cell? ⟨G.bS, 3, none⟩ = some (.map (some G.bM))) (hm : MapIs w G.bM A) (hA : ∀ p ∈ A, p.1 ≠ k) :
    Calls Try.prog 24 #[.pointer (some ⟨G.bS, 0, none⟩), .int .u64 k] w (BegTo w (.slice none 0 0) false) := by
  have hl := look_miss hm hA true
  simp only [if_true] at hl
  clear hm hA
  go_enter Try.func24, Try.ntmps24
  go_wp2_with fail
  go_ret2
  exact ⟨rfl, rfl⟩
end Go.Proofs.Qxb6616202a.Prune
