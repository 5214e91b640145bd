import Derived.Test.Qxb6616227aIKit
import Derived.Deep.DeepCutAuto
import Derived.Deep.CutRange
namespace Go.Proofs.Qxb6616227a.Ins
open Go.RowKit
set_option linter.unusedVariables false
set_option linter.unusedSimpArgs false

def BytesTo (w : World) (e : Ending) (w' : World) : Prop := (∃ b, e = .returned (.bool b)) ∧ w' = w
theorem bytes_any (x y s : Int) (a : Option Addr) (l c : Nat) (w : World) (h : l ≤ maxLen) : Calls Try.prog 4 #[.int .i64 x, .int .i64 y, .slice a l c, .int .i64 s] w (BytesTo w) := by
  unfold maxLen at h
  go_enter Try.func4, Try.ntmps4
  go_wp2
  all_goals (go_ret; exact ⟨⟨_, rfl⟩, rfl⟩)

/-- What zzChainModel leaves. -/
def ModelTo (base : Nat) (w : World) (n : Nat) (ps : List Po) (e : Ending) (w' : World) : Prop :=
  ∃ v, e = .returned v ∧ w'.ownsRow base 25 2 v n (pv ps) ∧ Below base w w' ∧ base ≤ w'.heap.size
theorem below_grown {base : Nat} {w0 w w' : World} {v : Value} {n : Nat} {xs : List Value} (hb : Below base w0 w) (hown : w.ownsRow base 25 2 v n xs) (hg : w.grownBy w' v.ownBlock) (hB : base ≤ w.heap.size) : Below base w0 w' :=
  hb.grown hg hB fun k hk => (hown.lt k hk).1

theorem new2 (w : World) (o1 o2 : Obj) : ((w.alloc o1).alloc o2).heap[w.heap.size + 1]? = some o2 := by
  have : (w.alloc o1).heap.size = w.heap.size + 1 := by simp
  rw [← this]; exact heap_alloc_new _ _
/-- An append's run in a region that draws, at a world with the element's block laid last. -/
theorem out_at {base : Nat} {w0 w1 : World} {v : Value} {n : Nat} {ps : List Po} (p : Po) (hown : w1.ownsRow base 25 2 v n (pv ps)) (hn : n ≤ 1000000) (hB : base ≤ w1.heap.size) (hb : Below base w0 w1) :
    ∃ g cap w2, (Builtin.append_ #[26, 26] 26 #[v, .slice (some ⟨w1.heap.size, 0, none⟩) 1 1]).run Try.prog (w1.alloc (pcell p)).drew = .ok (.slice (some ⟨g, 0, none⟩) (n + 1) cap) w2 ∧
      w2.ownsRow base 25 2 (.slice (some ⟨g, 0, none⟩) (n + 1) cap) (n + 1) (pv (ps ++ [p])) ∧ Below base w0 w2 ∧ base ≤ w2.heap.size ∧ (∀ b o u, w1.cell? ⟨b, o, none⟩ = some u → some b ≠ v.ownBlock → w2.cell? ⟨b, o, none⟩ = some u) ∧ w1.heap.size ≤ w2.heap.size := by
  have hown' : (w1.alloc (pcell p)).drew.ownsRow base 25 2 v n (pv ps) := hown.alloc (pcell p)
  have hsz : (w1.alloc (pcell p)).drew.heap.size = w1.heap.size + 1 := by show (w1.alloc (pcell p)).heap.size = _; simp
  obtain ⟨g, cap, w2, hr, h1, h2, h3, h4⟩ := run_out (w1.alloc (pcell p)).drew 26 base v n ps hown' w1.heap.size p (heap_alloc_new w1 _) hn (by omega)
  have hb2 := h2.size
  refine ⟨g, cap, w2, hr, h1, ?_, by omega, ?_, by omega⟩
  · exact below_grown ((hb.alloc hB _).drew) hown' h2 (by omega)
  · intro b o u hc hne
    exact h2.cell (show (w1.alloc (pcell p)).drew.cell? ⟨b, o, none⟩ = some u from al_cell hc _) hne
theorem far_own {base : Nat} {w : World} {v : Value} {n : Nat} {xs : List Value} (h : w.ownsRow base 25 2 v n xs) {b : Nat} (hb : b < base ∨ w.heap.size ≤ b) : some b ≠ v.ownBlock := by
  intro q
  have := h.lt b q.symm
  omega

set_option maxRecDepth 100000 in
set_option maxHeartbeats 4000000 in
theorem model_any (lx ly skip : Int) (ks : List Lk) (a : Option Addr) (c base : Nat) (W : World) (hR : RdK W a ks) (hWb : W.heap.size ≤ base) (hks : ks.length ≤ 32768) :
    ∀ (n : Nat), n ≤ ks.length → ∀ (w : World) (v : Value) (m : Nat) (ps : List Po), Below W.heap.size W w → base ≤ w.heap.size → w.ownsRow base 25 2 v m (pv ps) → m + 2 * n + 1 ≤ 500000 →
    Calls Try.prog 9 #[.agg #[.int .i64 lx, .int .i64 ly], .slice a ks.length c, .int .i64 ((n : Int) - 1), .int .i64 skip, v] w (ModelTo base w (m + (model (lx, ly) ks skip n).length) (ps ++ model (lx, ly) ks skip n)) := by
  intro n
  induction n with
  | zero =>
    intro _ w v m ps hb hB hown hm
    have hX := hown.alloc (.cells #[.int .i64 lx, .int .i64 ly] 25)
    have HR := hide hR
    clear hR
    go_enter Try.func9, Try.ntmps9
    go_wp2_with (first | (at_builtin; refine list_out rfl (.tmp 13) (.tmp 15) rfl base v m ps rfl (hX.alloc (pcell (lx, ly))) (w.heap.size + 1) (lx, ly) rfl (new2 _ _ _) (by omega) (by simp; omega) ?_; intro g cap w' h1 h2 h3 h4))
    go_ret
    refine ⟨_, rfl, h1, ?_, ?_⟩
    · exact below_grown (((Below.refl _ _).alloc hB _).alloc (by simp; omega) _) (hX.alloc (pcell (lx, ly))) h2 (by simp; omega)
    · have := h2.size
      simp at this
      omega
  | succ n ih =>
    intro hn w v m ps hb hB hown hm
    rw [show ((n + 1 : Nat) : Int) - 1 = n by omega]
    obtain ⟨b, off, rfl, k0, k1, k2, k3⟩ := hR n (by omega)
    have hbW := cell_lt k0
    have hneg : decide ((n : Int) < 0) = false := decide_eq_false (by omega)
    obtain ⟨l, hl⟩ : ∃ l, ks.getD n lk0 = l := ⟨_, rfl⟩
    have hmod : model (lx, ly) ks skip (n + 1) = l.o :: if l.o.1 = skip then [] else model (lx, ly) ks skip n ++ [l.y] := by rw [← hl]; rfl
    rw [hl] at k0 k1 k2 k3
    obtain ⟨⟨ol, oc⟩, ⟨yl, yc⟩⟩ := l
    simp only at k0 k1 k2 k3 hmod
    have HMOD := hide hmod
    have q0 := seen hb hbW k0
    have q1 := seen hb hbW k1
    have p0 := al_cell q0 (.cells #[.int .i64 lx, .int .i64 ly] 25)
    have p1 := al_cell q1 (.cells #[.int .i64 lx, .int .i64 ly] 25)
    have hX := hown.alloc (.cells #[.int .i64 lx, .int .i64 ly] 25)
    have hsz1 : (w.alloc (.cells #[.int .i64 lx, .int .i64 ly] 25)).heap.size = w.heap.size + 1 := by simp
    obtain ⟨g, cap, w2, hrun, own2, bel2, hB2, keep2, sz2⟩ := out_at (w0 := w) (ol, oc) hX (by omega) (by omega) ((Below.refl base w).alloc hB _)
    have lf : w2.cell? ⟨w.heap.size, 0, none⟩ = some (.int .i64 lx) := keep2 _ _ _ (by rw [cell_of_row _ _ _ _ _ _ (heap_alloc_new w _)]; rfl) (far_own hown (.inr (Nat.le_refl _)))
    have lf1 : w2.cell? ⟨w.heap.size, 1, none⟩ = some (.int .i64 ly) := keep2 _ _ _ (by rw [cell_of_row _ _ _ _ _ _ (heap_alloc_new w _)]; rfl) (far_own hown (.inr (Nat.le_refl _)))
    have d0 : w2.cell? ⟨b, off + n * 4, none⟩ = some (.int .i64 ol) := seen bel2 (by omega) q0
    have hbW2 : Below W.heap.size W w2 := hb.trans (bel2.mono hWb)
    rw [hsz1] at hrun
    have HRUN := hide hrun
    have S0 : Hid ((w.alloc (.cells #[.int .i64 lx, .int .i64 ly] 25)).drew.cell? ⟨b, off + n * 4, none⟩ = some (.int .i64 ol) ∧ (w.alloc (.cells #[.int .i64 lx, .int .i64 ly] 25)).drew.cell? ⟨b, off + n * 4 + 1, none⟩ = some (.int .i64 oc)) := ⟨p0, p1⟩
    have S1 : Hid (((w.alloc (.cells #[.int .i64 lx, .int .i64 ly] 25)).alloc (pcell (ol, oc))).drew.cell? ⟨b, off + n * 4, none⟩ = some (.int .i64 ol) ∧ ((w.alloc (.cells #[.int .i64 lx, .int .i64 ly] 25)).alloc (pcell (ol, oc))).drew.cell? ⟨b, off + n * 4 + 1, none⟩ = some (.int .i64 oc)) := ⟨al_cell p0 _, al_cell p1 _⟩
    have S2 : Hid (w2.cell? ⟨b, off + n * 4, none⟩ = some (.int .i64 ol) ∧ w2.cell? ⟨b, off + n * 4 + 1, none⟩ = some (.int .i64 oc)) := ⟨d0, seen bel2 (by omega) q1⟩
    have IH := hide ih
    have HR := hide hR
    have OWN2 := hide own2
    have BEL2 := hide bel2
    have HBW2 := hide hbW2
    have K2 := hide k2
    have K3 := hide k3
    have hu : n < ks.length := by omega
    clear ih hR own2 bel2 hbW2 k0 k1 k2 k3 hrun q0 q1 p0 p1 hX hl hmod keep2 hsz1
    go_enter Try.func9, Try.ntmps9
    go_upto_region 3 with fail
    go_region_held_law (fun w' => w'.cell? ⟨b, off + n * 4, none⟩ = some (.int .i64 ol) ∧ w'.cell? ⟨b, off + n * 4 + 1, none⟩ = some (.int .i64 oc)) (first | with_reducible exact S0.out | with_reducible exact S1.out | with_reducible exact S2.out)
      (first | (refine step_out rfl (.tmp 17) (.tmp 29) rfl v (.slice (some ⟨w.heap.size + 1, 0, none⟩) 1 1) (.slice (some ⟨g, 0, none⟩) (m + 1) cap) w2 rfl rfl HRUN.out ?_))
    by_cases hsk : ol = skip
    · subst hsk
      go_wp2_with fail
      go_ret
      rw [HMOD.out]
      simp only [if_true]
      exact ⟨_, rfl, OWN2.out, BEL2.out, hB2⟩
    · have hne : (ol == skip) = false := by simpa using hsk
      have HSK := hide hsk
      go_wp2_with fail
      refine (IH.out (by omega) w2 _ (m + 1) (ps ++ [(ol, oc)]) HBW2.out hB2 OWN2.out (by omega)).mono ?_
      rintro e w3 ⟨v3, rfl, own3, bel3, hB3⟩
      have hml := model_le (lx, ly) ks skip n
      obtain ⟨L, hL⟩ : ∃ L, (model (lx, ly) ks skip n).length = L := ⟨_, rfl⟩
      rw [hL] at own3 hml
      have HBW3 := hide (HBW2.out.trans (bel3.mono hWb))
      have q2 := seen HBW3.out hbW K2.out
      have q3 := seen HBW3.out hbW K3.out
      obtain ⟨g4, cap4, w4, hrun4, own4, bel4, hB4, keep4, sz4⟩ := out_at (w0 := w) (yl, yc) own3 (by omega) hB3 (BEL2.out.trans bel3)
      have HRUN4 := hide hrun4
      have T0 : Hid (w3.drew.cell? ⟨b, off + n * 4 + 2, none⟩ = some (.int .i64 yl) ∧ w3.drew.cell? ⟨b, off + n * 4 + 3, none⟩ = some (.int .i64 yc)) := ⟨q2, q3⟩
      have T1 : Hid ((w3.alloc (pcell (yl, yc))).drew.cell? ⟨b, off + n * 4 + 2, none⟩ = some (.int .i64 yl) ∧ (w3.alloc (pcell (yl, yc))).drew.cell? ⟨b, off + n * 4 + 3, none⟩ = some (.int .i64 yc)) := ⟨al_cell q2 _, al_cell q3 _⟩
      have T2 : Hid (w4.cell? ⟨b, off + n * 4 + 2, none⟩ = some (.int .i64 yl) ∧ w4.cell? ⟨b, off + n * 4 + 3, none⟩ = some (.int .i64 yc)) := ⟨keep4 _ _ _ q2 (far_own own3 (.inl (by omega))), keep4 _ _ _ q3 (far_own own3 (.inl (by omega)))⟩
      have OWN4 := hide own4
      have BEL4 := hide bel4
      have HL := hide hL
      clear hrun4 own4 bel4 keep4 own3 bel3 q2 q3 hL
      go_upto_region 7 with fail
      go_region_held_law (fun w' => w'.cell? ⟨b, off + n * 4 + 2, none⟩ = some (.int .i64 yl) ∧ w'.cell? ⟨b, off + n * 4 + 3, none⟩ = some (.int .i64 yc)) (first | with_reducible exact T0.out | with_reducible exact T1.out | with_reducible exact T2.out)
        (first | (refine step_out rfl (.tmp 46) (.tmp 58) rfl v3 (.slice (some ⟨w3.heap.size, 0, none⟩) 1 1) (.slice (some ⟨g4, 0, none⟩) (m + 1 + L + 1) cap4) w4 rfl rfl HRUN4.out ?_))
      go_wp2_with fail
      go_ret
      have e1 : m + ((ol, oc) :: (model (lx, ly) ks skip n ++ [(yl, yc)])).length = m + 1 + L + 1 := by simp [HL.out]; omega
      have e2 : ps ++ (ol, oc) :: (model (lx, ly) ks skip n ++ [(yl, yc)]) = ps ++ [(ol, oc)] ++ model (lx, ly) ks skip n ++ [(yl, yc)] := by simp
      have own5 : w4.ownsRow base 25 2 (.slice (some ⟨g4, 0, none⟩) (m + 1 + L + 1) cap4) (m + (model (lx, ly) ks skip (n + 1)).length) (pv (ps ++ model (lx, ly) ks skip (n + 1))) := by
        rw [HMOD.out, if_neg HSK.out, e1, e2]; exact OWN4.out
      have post : ModelTo base w (m + (model (lx, ly) ks skip (n + 1)).length) (ps ++ model (lx, ly) ks skip (n + 1)) (.returned (.slice (some ⟨g4, 0, none⟩) (m + 1 + L + 1) cap4)) w4 := ⟨_, rfl, own5, BEL4.out, hB4⟩
      refine (show ∀ x, x = Value.slice (some ⟨g4, 0, none⟩) (m + 1 + L + 1) cap4 → ModelTo base w (m + (model (lx, ly) ks skip (n + 1)).length) (ps ++ model (lx, ly) ks skip (n + 1)) (.returned x) w4 from fun x h => h ▸ post) _ ?_
      simp
end Go.Proofs.Qxb6616227a.Ins
