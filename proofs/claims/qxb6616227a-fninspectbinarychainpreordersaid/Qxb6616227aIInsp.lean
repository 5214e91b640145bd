import Derived.Test.Qxb6616227aIClo
namespace Go.Proofs.Qxb6616227a.Ins
open Go.RowKit
set_option linter.unusedVariables false
set_option linter.unusedSimpArgs false

theorem is37 (t : TypeId) (a : Addr) (w : World) : (Instr.typeAssert (.iface 37 (.pointer (some a))) t 37 true).run Try.prog w = .ok (.tuple #[.pointer (some a), .bool true]) w := by kernel_rfl
theorem no37 (a : Addr) (w : World) : (Instr.typeAssert (.iface 28 (.pointer (some a))) 46 37 true).run Try.prog w = .ok (.tuple #[.pointer none, .bool false]) w := by kernel_rfl
theorem no50 (a : Addr) (w : World) : (Instr.typeAssert (.iface 28 (.pointer (some a))) 46 50 true).run Try.prog w = .ok (.tuple #[.pointer none, .bool false]) w := by kernel_rfl
theorem no51 (a : Addr) (w : World) : (Instr.typeAssert (.iface 28 (.pointer (some a))) 46 51 true).run Try.prog w = .ok (.tuple #[.pointer none, .bool false]) w := by kernel_rfl
theorem no52 (a : Addr) (w : World) : (Instr.typeAssert (.iface 28 (.pointer (some a))) 46 52 true).run Try.prog w = .ok (.tuple #[.pointer none, .bool false]) w := by kernel_rfl
theorem no53 (a : Addr) (w : World) : (Instr.typeAssert (.iface 28 (.pointer (some a))) 46 53 true).run Try.prog w = .ok (.tuple #[.pointer none, .bool false]) w := by kernel_rfl
theorem is28 (t : TypeId) (a : Addr) (w : World) : (Instr.typeAssert (.iface 28 (.pointer (some a))) t 28 true).run Try.prog w = .ok (.tuple #[.pointer (some a), .bool true]) w := by kernel_rfl
theorem no28 (a : Addr) (w : World) : (Instr.typeAssert (.iface 37 (.pointer (some a))) 42 28 true).run Try.prog w = .ok (.tuple #[.pointer none, .bool false]) w := by kernel_rfl
theorem nq50 (a : Addr) (w : World) : (Instr.typeAssert (.iface 37 (.pointer (some a))) 46 50 true).run Try.prog w = .ok (.tuple #[.pointer none, .bool false]) w := by kernel_rfl
theorem nq51 (a : Addr) (w : World) : (Instr.typeAssert (.iface 37 (.pointer (some a))) 46 51 true).run Try.prog w = .ok (.tuple #[.pointer none, .bool false]) w := by kernel_rfl
theorem nq52 (a : Addr) (w : World) : (Instr.typeAssert (.iface 37 (.pointer (some a))) 46 52 true).run Try.prog w = .ok (.tuple #[.pointer none, .bool false]) w := by kernel_rfl
def visitor (bo bs : Nat) : Value := .func (.func 13) #[] #[.pointer (some ⟨bo, 0, none⟩), .pointer (some ⟨bs, 0, none⟩)]
/-- What Inspect leaves: the positions qs have been written down. -/
def ITo (bo bs base : Nat) (skip : Int) (qs : List Po) (v : Value) (w : World) (e : Ending) (w' : World) : Prop :=
  e = .returned (.tuple #[]) ∧ ∃ v', Step bo bs base skip qs v w v' w'

set_option maxRecDepth 100000 in
set_option maxHeartbeats 4000000 in
theorem insp_ident (w : World) (skip : Int) (b : Nat) (bo bs base : Nat) (ps : List Po) (p : Po) (v : Value) (hat : At w b p) (hb : b < base) (h : Out bo bs base skip ps v w) (hl : ps.length ≤ 400000) :
    Calls Try.prog 12 #[.iface 37 (.pointer (some ⟨b, 0, none⟩)), .func (.func 13) #[] #[.pointer (some ⟨bo, 0, none⟩), .pointer (some ⟨bs, 0, none⟩)]] w (ITo bo bs base skip (ps ++ [p]) v w) := by
  have HC := hide (clo_ident w skip b bo bs base ps p v hat hb h hl)
  clear hat h
  have t1 := is37 46 ⟨b, 0, none⟩
  have t2 := nq50 ⟨b, 0, none⟩
  have t3 := nq51 ⟨b, 0, none⟩
  have t4 := nq52 ⟨b, 0, none⟩
  go_enter Try.func12, Try.ntmps12
  go_wp2_with (first | (go_at_call 13; refine HC.out.mono ?_; rintro e w' ⟨v', rfl, hst⟩; have ST := hide hst; clear hst; by_cases c : p.1 = skip))
  all_goals (go_end0; exact ⟨rfl, _, ST.out⟩)
end Go.Proofs.Qxb6616227a.Ins
