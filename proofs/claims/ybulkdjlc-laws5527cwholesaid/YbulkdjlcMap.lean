import Derived.Test.YbulkdjlcGet
import Derived.WalkKit
import Derived.WalkSpells
import Derived.Maps.OwnSet
namespace Go.Proofs.Ybulkdjlc.C
open Go.RowKit
open Go.Maps (Keyed IsMap Tidy)
set_option linter.unusedVariables false
/-- Every element reads as itself. -/
def heldR (v : Value) : Option (DataW Value × List MemPlace) := some (.held v, [])
theorem lawK : Keyed Yba.prog 2 := Maps.int_keyed Yba.underlying2
theorem zero32 (w : World) : (zeroValue 32).run Yba.prog w = .ok (.pointer none) w := by kernel_rfl
abbrev kI (r : Int) : Lit := .int .i64 r
theorem keyI (r : Int) (h : (Lit.int .i64 r).wf = true) : keyOf Yba.prog 2 (.int .i64 r) = some (kI r) := Maps.keyOf_int_mk Yba.underlying2 h
/-- The map in block M holds vs j at us j, for j below i, and nothing else. -/
def MapB (w : World) (M : Nat) (us : Nat → Int) (vs : Nat → Value) (i : Nat) : Prop :=
  ∃ D : DataW Value, w.ownsMap Yba.prog 2 heldR M i D ∧ Maps.size D = i ∧ (∀ j, j < i → Maps.has D (kI (us j)) = true ∧ D.atKey (kI (us j)) (.held (.pointer none)) = .held (vs j)) ∧ ∀ r, (∀ j, j < i → us j ≠ r) → Maps.has D (kI r) = false
theorem MapB.keep {w w' : World} {M : Nat} {us : Nat → Int} {vs : Nat → Value} {i : Nat} (h : MapB w M us vs i) (hb : w'.heap[M]? = w.heap[M]?) : MapB w' M us vs i := by
  obtain ⟨D, ⟨es, clock, hbk, r⟩, q⟩ := h
  exact ⟨D, ⟨es, clock, hb.trans hbk, r⟩, q⟩
theorem MapB.lt {w : World} {M : Nat} {us : Nat → Int} {vs : Nat → Value} {i : Nat} (h : MapB w M us vs i) : M < w.heap.size := by
  obtain ⟨D, ⟨es, clock, hbk, r⟩, q⟩ := h
  exact lt_of_block hbk
theorem mapB_made (w : World) (us : Nat → Int) (vs : Nat → Value) : MapB (w.alloc (.map #[] 0)) w.heap.size us vs 0 :=
  ⟨.map [], World.ownsMap_made w _ _ _, rfl, fun j hj => (by omega), fun r _ => rfl⟩
theorem held_at {D : DataW Value} {kl : Lit} {v : Value} {ps : List MemPlace} (h : heldR v = some (D.atKey kl (.held (.pointer none)), ps)) : D.atKey kl (.held (.pointer none)) = .held v := by
  unfold heldR at h
  simp only [Option.some.injEq, Prod.mk.injEq] at h
  exact h.1.symm
theorem MapB.look_ok {w : World} {M : Nat} {us : Nat → Int} {vs : Nat → Value} {i : Nat} (h : MapB w M us vs i) {j : Nat} (hj : j < i) (hw : (Lit.int .i64 (us j)).wf = true) :
    (Instr.lookup 24 (.map (some M)) (.int .i64 (us j)) true).run Yba.prog w = .ok (.tuple #[vs j, .bool true]) w := by
  obtain ⟨D, hown, _, hat, _⟩ := h
  obtain ⟨h1, h2⟩ := hat j hj
  obtain ⟨v, ps, hrun, hv⟩ := hown.look_ok lawK Yba.underlying24 (zero32 w) (zd := .held (.pointer none)) rfl (keyI _ hw)
  rw [hrun, h1]
  have hv' := held_at hv
  rw [h2] at hv'
  simp only [DataW.held.injEq] at hv'
  rw [hv']
theorem MapB.miss_ok {w : World} {M : Nat} {us : Nat → Int} {vs : Nat → Value} {i : Nat} (h : MapB w M us vs i) {r : Int} (hr : ∀ j, j < i → us j ≠ r) (hw : (Lit.int .i64 r).wf = true) :
    (Instr.lookup 24 (.map (some M)) (.int .i64 r) true).run Yba.prog w = .ok (.tuple #[.pointer none, .bool false]) w := by
  obtain ⟨D, hown, _, _, hat⟩ := h
  obtain ⟨v, ps, hrun, hv⟩ := hown.look_ok lawK Yba.underlying24 (zero32 w) (zd := .held (.pointer none)) rfl (keyI _ hw)
  rw [hrun, hat r hr]
  have hv' := held_at hv
  rw [Maps.atKey_of_not_has (hat r hr) _] at hv'
  simp only [DataW.held.injEq] at hv'
  rw [← hv']
theorem MapB.look {w : World} {M : Nat} {us : Nat → Int} {vs : Nat → Value} {i : Nat} (h : MapB w M us vs i) {j : Nat} (hj : j < i) (hw : (Lit.int .i64 (us j)).wf = true) :
    (Instr.lookup 24 (.map (some M)) (.int .i64 (us j)) false).run Yba.prog w = .ok (vs j) w := by
  obtain ⟨D, hown, _, hat, _⟩ := h
  obtain ⟨h1, h2⟩ := hat j hj
  obtain ⟨es, clock, hb, F, _, rfl⟩ := hown
  rcases Maps.fit_look false lawK Yba.underlying24 (zero32 w) hb F (keyI _ hw) with ⟨hrun, _, hat0⟩ | ⟨e0, y, _, _, hrun, hRv, hat0, _⟩
  · rw [Maps.has_false_of_atKey hat0] at h1; cases h1
  · have h3 := hat0 (.held (.pointer none))
    rw [h2] at h3
    unfold heldR at hRv
    simp only [Option.some.injEq] at hRv
    have h4 : e0.val = vs j := by
      have := congrArg Prod.fst hRv
      rw [← h3] at this
      simpa using this
    rw [← h4]; exact hrun
/-- 'm[us i] = v' at a key that is not there yet. -/
theorem MapB.store {w : World} {M : Nat} {us : Nat → Int} {vs : Nat → Value} {i : Nat} (h : MapB w M us vs i) (hi : i < 4096) (hnew : ∀ j, j < i → us j ≠ us i) (hw : (Lit.int .i64 (us i)).wf = true) :
    ∃ w', (Instr.mapUpdate 24 (.map (some M)) (.int .i64 (us i)) (vs i)).run Yba.prog w = .ok () w' ∧ MapB w' M us vs (i + 1) ∧ w.grownBy w' (some M) := by
  obtain ⟨D, hown, hsz, hat, hmiss⟩ := h
  obtain ⟨w', hrun, hown2, hturn⟩ := hown.store lawK Yba.underlying24 (by unfold maxLen; omega) (keyI _ hw) (show heldR (vs i) = some (.held (vs i), []) from rfl)
  have hKL : WideAt.IsKeyLit (kI (us i)) := trivial
  have ne : ∀ r, r ≠ us i → kI r ≠ kI (us i) := fun r hr e => by injection e with _ e'; exact hr e'
  refine ⟨w', hrun, ⟨_, hown2, ?_, fun j hj => ?_, fun r hr => ?_⟩, hturn.grown⟩
  · rw [Maps.size_put (hown.tidy lawK), hmiss (us i) hnew, hsz]; rfl
  · by_cases e : j = i
    · subst e
      exact ⟨Maps.has_put_same hown.isMap hKL _, Maps.atKey_put_same hown.isMap hKL _ _⟩
    · have hji : j < i := by omega
      rw [Maps.has_put_other (ne _ (hnew j hji)), Maps.atKey_put_other (ne _ (hnew j hji))]
      exact hat j hji
  · rw [Maps.has_put_other (ne r (fun e => hr i (by omega) e.symm))]
    exact hmiss r (fun j hj => hr j (by omega))
end Go.Proofs.Ybulkdjlc.C
