import Derived.Test.YbulkdjlcBuilt
import Derived.WalkKit
namespace Go.Proofs.Ybulkdjlc.C
open Go.RowKit
set_option linter.unusedVariables false
/-- The state inside a round of the building loop: i elements, r records, m keys. -/
structure Bg (w0 w : World) (cb M B0 el rl n : Nat) (sz : Int) (us : Nat → Int) (ua : Option Addr) (nilI : Value) (i r m s : Nat) : Prop where
  hn : n ≤ 4096
  hi : i ≤ n
  hr : r ≤ n
  hir : i ≤ r
  hs : B0 + 4 * i ≤ s
  hsr : r = i ∨ r = i + 1 ∧ s = B0 + 4 * i + 2
  hsz : w.heap.size = s
  hM : M + 1 = cb
  hcb : cb + 1 = el
  hel : el + 1 = rl
  hrl : rl + 1 = B0
  h0 : w0.heap.size ≤ M
  cC : w.heap[cb]? = some (.cells #[.int .i32 0, .int .u32 0, .int .i64 sz, if i = 0 then .pointer none else ptr (B0 + 3), if i = 0 then .pointer none else ptr (B0 + 4 * (i - 1) + 3), .pointer none, nilI, .int .i64 i, .map (some M)] 39 (0, 0))
  els : ∃ ce, w.heap[el]? = some (.cells ce 32 (0, 0)) ∧ ∀ j, j < n → ce[j]? = some (if j < i then ptr (B0 + 4 * j + 3) else .pointer none)
  rls : ∃ cr, w.heap[rl]? = some (.cells cr 42 (0, 0)) ∧ ∀ j, j < n → cr[j]? = some (if j < r then ptr (B0 + 4 * j + 1) else .pointer none)
  uq : ∀ j, j < n → ∃ ub, ua = some ⟨ub, 0, none⟩ ∧ ub < M ∧ w.cell? ⟨ub, j, none⟩ = some (.int .i64 (us j))
  E : ∀ j, j < i → w.heap[B0 + 4 * j + 3]? = some (.cells #[if j + 1 < i then ptr (B0 + 4 * (j + 1) + 3) else root cb, if j = 0 then root cb else ptr (B0 + 4 * (j - 1) + 3), root cb, .iface 48 (ptr (B0 + 4 * j + 2))] 35 (0, 0))
  Q : ∀ j, j < i → w.heap[B0 + 4 * j + 2]? = some (.cells #[.int .i64 (us j), ptr (B0 + 4 * j + 1)] 50 (0, 0))
  R : ∀ j, j < r → w.heap[B0 + 4 * j + 1]? = some (.cells #[.slice none 0 0, .slice (some ⟨B0 + 4 * j, 0, none⟩) 1 1] 46 (0, 0))
  S : ∀ j, j < r → w.heap[B0 + 4 * j]? = some (.cells #[.int .i64 j] 3 (0, 0))
  mp : MapB w M us (fun j => ptr (B0 + 4 * j + 3)) m
  wfu : ∀ j, j < n → (Lit.int .i64 (us j)).wf = true
  inj : ∀ a b, a < n → b < n → us a = us b → a = b
  be : Below w0.heap.size w0 w
section
variable {w0 w : World} {cb M B0 el rl n : Nat} {sz : Int} {us : Nat → Int} {ua : Option Addr} {nilI : Value} {i r m s : Nat}
theorem Bu.toBg (b : Bu w0 w cb M B0 el rl n sz us ua nilI i) : Bg w0 w cb M B0 el rl n sz us ua nilI i i i (B0 + 4 * i) :=
  ⟨b.hn, b.hi, b.hi, Nat.le_refl _, Nat.le_refl _, .inl rfl, b.hsz, b.hM, b.hcb, b.hel, b.hrl, b.h0, b.cC, b.els, b.rls, b.uq, b.E, b.Q, b.R, b.S, b.mp, b.wfu, b.inj, b.be⟩
theorem Bg.toBu (b : Bg w0 w cb M B0 el rl n sz us ua nilI i i i (B0 + 4 * i)) : Bu w0 w cb M B0 el rl n sz us ua nilI i :=
  ⟨b.hn, b.hi, b.hsz, b.hM, b.hcb, b.hel, b.hrl, b.h0, b.cC, b.els, b.rls, b.uq, b.E, b.Q, b.R, b.S, b.mp, b.wfu, b.inj, b.be⟩
theorem Bg.drew (b : Bg w0 w cb M B0 el rl n sz us ua nilI i r m s) : Bg w0 w.drew cb M B0 el rl n sz us ua nilI i r m s :=
  ⟨b.hn, b.hi, b.hr, b.hir, b.hs, b.hsr, b.hsz, b.hM, b.hcb, b.hel, b.hrl, b.h0, b.cC, b.els, b.rls, b.uq, b.E, b.Q, b.R, b.S, b.mp.keep rfl, b.wfu, b.inj, b.be.drew⟩
/-- 'recs[i] = &record{starts: []int{i}}'. -/
theorem Bg.record (b : Bg w0 w cb M B0 el rl n sz us ua nilI i i m (B0 + 4 * i)) (hi : i < n) (W : World)
    (hW : W = ((w.setCell ⟨rl, i, none⟩ (ptr (B0 + 4 * i + 1))).alloc (.cells #[.int .i64 i] 3)).alloc (.cells #[.slice none 0 0, .slice (some ⟨B0 + 4 * i, 0, none⟩) 1 1] 46)) :
    Bg w0 W cb M B0 el rl n sz us ua nilI i (i + 1) m (B0 + 4 * i + 2) := by
  have k1 := b.hM
  have k2 := b.hcb
  have k3 := b.hel
  have k4 := b.hrl
  have k5 := b.h0
  have k6 := b.hsz
  obtain ⟨v, hv⟩ : ∃ v, v = w.setCell ⟨rl, i, none⟩ (ptr (B0 + 4 * i + 1)) := ⟨_, rfl⟩
  rw [← hv] at hW
  have z0 : v.heap.size = B0 + 4 * i := by rw [hv]; simp [World.setCell, k6]
  have z1 : (v.alloc (.cells #[.int .i64 i] 3)).heap.size = B0 + 4 * i + 1 := by simp [z0]
  have ov : ∀ k, k < B0 + 4 * i → W.heap[k]? = v.heap[k]? := fun k h1 => by
    rw [hW, Below.heap_alloc _ _ k (by omega), Below.heap_alloc _ _ k (by omega)]
  have oth : ∀ k, k < B0 + 4 * i → k ≠ rl → W.heap[k]? = w.heap[k]? := fun k h1 h2 => by
    rw [ov k h1, hv, Below.heap_setCell _ ⟨rl, i, none⟩ _ k h2]
  have nS : W.heap[B0 + 4 * i]? = some (.cells #[.int .i64 i] 3 (0, 0)) := by
    rw [hW, Below.heap_alloc _ _ _ (by omega), ← z0]
    exact heap_alloc_new v _
  have nR : W.heap[B0 + 4 * i + 1]? = some (.cells #[.slice none 0 0, .slice (some ⟨B0 + 4 * i, 0, none⟩) 1 1] 46 (0, 0)) := by
    rw [hW, ← z1]
    exact heap_alloc_new _ _
  refine ⟨b.hn, b.hi, hi, by omega, by omega, .inr ⟨rfl, rfl⟩, ?_, k1, k2, k3, k4, k5, (oth cb (by omega) (by omega)).trans b.cC, ?_, ?_, fun j hj => ?_, fun j hj => (oth _ (by omega) (by omega)).trans (b.E j hj), fun j hj => (oth _ (by omega) (by omega)).trans (b.Q j hj), fun j hj => ?_, fun j hj => ?_, b.mp.keep (oth M (by omega) (by omega)), b.wfu, b.inj, ?_⟩
  · rw [hW]; simp [z0]
  · obtain ⟨ce, h1, h2⟩ := b.els
    exact ⟨ce, (oth el (by omega) (by omega)).trans h1, h2⟩
  · obtain ⟨cr, h1, h2⟩ := b.rls
    refine ⟨_, (ov rl (by omega)).trans (by rw [hv]; exact same_step _ h1), fun j hj => ?_⟩
    have hsz : i < cr.size := (Array.getElem?_eq_some_iff.mp (h2 i hi)).1
    by_cases e : j = i
    · subst e
      rw [Array.getElem?_setIfInBounds_self_of_lt hsz, if_pos (by omega)]
    · rw [Array.getElem?_setIfInBounds_ne (by omega), h2 j hj]
      by_cases e2 : j < i
      · rw [if_pos e2, if_pos (by omega)]
      · rw [if_neg e2, if_neg (by omega)]
  · obtain ⟨ub, h1, h2, h3⟩ := b.uq j hj
    refine ⟨ub, h1, h2, ?_⟩
    rw [World.cell?_of_block (w := w) (a := ⟨ub, j, none⟩) (oth ub (by omega) (by omega))]; exact h3
  · by_cases e : j = i
    · subst e; exact nR
    · exact (oth _ (by omega) (by omega)).trans (b.R j (by omega))
  · by_cases e : j = i
    · subst e; exact nS
    · exact (oth _ (by omega) (by omega)).trans (b.S j (by omega))
  · rw [hW, hv]
    have h0 := b.be.setCell (p := ⟨rl, i, none⟩) (show w0.heap.size ≤ rl by omega) (ptr (B0 + 4 * i + 1))
    rw [← hv] at h0 ⊢
    have h1 := h0.alloc (by omega) (.cells #[.int .i64 i] 3)
    exact h1.alloc (by omega) (.cells #[.slice none 0 0, .slice (some ⟨B0 + 4 * i, 0, none⟩) 1 1] 46)
/-- What PushBack leaves, and the store of its result. -/
theorem Bg.push (b : Bg w0 w cb M B0 el rl n sz us ua nilI i (i + 1) m (B0 + 4 * i + 2)) (hi : i < n) :
    Calls Yba.prog 4 #[.pointer (some ⟨cb, 3, none⟩), (.iface 48 (.pointer (some ⟨B0 + 4 * i + 2, 0, none⟩)))] (w.alloc (.cells #[.int .i64 (us i), ptr (B0 + 4 * i + 1)] 50)) fun e w' => e = .returned (ptr (B0 + 4 * i + 3)) ∧
      (∃ v, w'.cell? ⟨el, i, none⟩ = some v) ∧ w'.frozen? ⟨el, i, none⟩ = false ∧ Bg w0 (w'.setCell ⟨el, i, none⟩ (ptr (B0 + 4 * i + 3))) cb M B0 el rl n sz us ua nilI (i + 1) (i + 1) m (B0 + 4 * (i + 1)) := by
  have k0 := b.hn
  have k1 := b.hM
  have k2 := b.hcb
  have k3 := b.hel
  have k4 := b.hrl
  have k5 := b.h0
  have k6 := b.hsz
  obtain ⟨w1, hw1⟩ : ∃ w1, w1 = w.alloc (.cells #[.int .i64 (us i), ptr (B0 + 4 * i + 1)] 50) := ⟨_, rfl⟩
  rw [← hw1]
  have z1 : w1.heap.size = B0 + 4 * i + 3 := by rw [hw1]; simp [k6]
  have o1 : ∀ k, k < B0 + 4 * i + 2 → w1.heap[k]? = w.heap[k]? := fun k h1 => by rw [hw1, Below.heap_alloc _ _ k (by omega)]
  have nQ : w1.heap[B0 + 4 * i + 2]? = some (.cells #[.int .i64 (us i), ptr (B0 + 4 * i + 1)] 50 (0, 0)) := by rw [hw1, ← k6]; exact heap_alloc_new w _
  have be1 : Below w0.heap.size w0 w1 := by rw [hw1]; exact b.be.alloc (by omega) _
  have C1 := (o1 cb (by omega)).trans b.cC
  -- what both ways give
  have fin : ∀ w' : World, w'.heap.size = w1.heap.size + 1 → Below w0.heap.size w0 w' → (∀ k, k < B0 + 4 * i + 3 → k ≠ cb → (0 < i → k ≠ B0 + 4 * (i - 1) + 3) → w'.heap[k]? = w1.heap[k]?) →
      (0 < i → w'.heap[B0 + 4 * (i - 1) + 3]? = some (.cells #[ptr (B0 + 4 * i + 3), if i - 1 = 0 then root cb else ptr (B0 + 4 * (i - 1 - 1) + 3), root cb, .iface 48 (ptr (B0 + 4 * (i - 1) + 2))] 35 (0, 0))) →
      w'.heap[B0 + 4 * i + 3]? = some (.cells #[root cb, if i = 0 then root cb else ptr (B0 + 4 * (i - 1) + 3), root cb, .iface 48 (ptr (B0 + 4 * i + 2))] 35 (0, 0)) →
      w'.heap[cb]? = some (.cells #[.int .i32 0, .int .u32 0, .int .i64 sz, ptr (B0 + 3), ptr (B0 + 4 * i + 3), .pointer none, nilI, .int .i64 ((i + 1 : Nat) : Int), .map (some M)] 39 (0, 0)) →
      (∃ v, w'.cell? ⟨el, i, none⟩ = some v) ∧ w'.frozen? ⟨el, i, none⟩ = false ∧ Bg w0 (w'.setCell ⟨el, i, none⟩ (ptr (B0 + 4 * i + 3))) cb M B0 el rl n sz us ua nilI (i + 1) (i + 1) m (B0 + 4 * (i + 1)) := by
    intro w' hz hb ho hL hE hC
    obtain ⟨ce, he1, he2⟩ := b.els
    have he3 : w'.heap[el]? = some (.cells ce 32 (0, 0)) := (ho el (by omega) (by omega) (fun _ => by omega)).trans ((o1 el (by omega)).trans he1)
    refine ⟨⟨_, cell_at he3 (he2 i hi)⟩, frozen_of_row _ _ _ _ _ he3, ?_⟩
    obtain ⟨W, hW⟩ : ∃ W, W = w'.setCell ⟨el, i, none⟩ (ptr (B0 + 4 * i + 3)) := ⟨_, rfl⟩
    rw [← hW]
    have oW : ∀ k, k ≠ el → W.heap[k]? = w'.heap[k]? := fun k h => by rw [hW]; exact Below.heap_setCell _ ⟨el, i, none⟩ _ k h
    have oA : ∀ k, k < B0 + 4 * i + 2 → k ≠ el → k ≠ cb → (0 < i → k ≠ B0 + 4 * (i - 1) + 3) → W.heap[k]? = w.heap[k]? := fun k h1 h2 h3 h4 => (oW k h2).trans ((ho k (by omega) h3 h4).trans (o1 k h1))
    refine ⟨b.hn, hi, hi, Nat.le_refl _, Nat.le_refl _, .inl rfl, ?_, k1, k2, k3, k4, k5, ?_, ?_, ?_, fun j hj => ?_, fun j hj => ?_, fun j hj => ?_, fun j hj => ?_, fun j hj => ?_, b.mp.keep (oA M (by omega) (by omega) (by omega) (fun _ => by omega)), b.wfu, b.inj, ?_⟩
    · rw [hW]; simp [World.setCell]; omega
    · rw [if_neg (by omega), if_neg (by omega), show i + 1 - 1 = i by omega]
      exact (oW cb (by omega)).trans hC
    · refine ⟨_, by rw [hW]; exact same_step _ he3, fun j hj => ?_⟩
      have hsz : i < ce.size := (Array.getElem?_eq_some_iff.mp (he2 i hi)).1
      by_cases e : j = i
      · subst e
        rw [Array.getElem?_setIfInBounds_self_of_lt hsz, if_pos (by omega)]
      · rw [Array.getElem?_setIfInBounds_ne (by omega), he2 j hj]
        by_cases e2 : j < i
        · rw [if_pos e2, if_pos (by omega)]
        · rw [if_neg e2, if_neg (by omega)]
    · obtain ⟨cr, h1, h2⟩ := b.rls
      exact ⟨cr, (oA rl (by omega) (by omega) (by omega) (fun _ => by omega)).trans h1, h2⟩
    · obtain ⟨ub, h1, h2, h3⟩ := b.uq j hj
      refine ⟨ub, h1, h2, ?_⟩
      rw [World.cell?_of_block (w := w) (a := ⟨ub, j, none⟩) (oA ub (by omega) (by omega) (by omega) (fun _ => by omega))]; exact h3
    · by_cases e : j = i
      · subst e
        rw [if_neg (show ¬ j + 1 < j + 1 by omega)]
        exact (oW _ (by omega)).trans hE
      · by_cases e2 : j + 1 = i
        · subst e2
          rw [if_pos (show j + 1 < j + 1 + 1 by omega)]
          have := hL (by omega)
          rw [show j + 1 - 1 = j by omega] at this
          exact (oW _ (by omega)).trans this
        · have := b.E j (by omega)
          rw [if_pos (show j + 1 < i by omega)] at this
          rw [if_pos (show j + 1 < i + 1 by omega)]
          exact (oA _ (by omega) (by omega) (by omega) (fun _ => by omega)).trans this
    · by_cases e : j = i
      · subst e
        exact (oW _ (by omega)).trans ((ho _ (by omega) (by omega) (fun _ => by omega)).trans nQ)
      · exact (oA _ (by omega) (by omega) (by omega) (fun _ => by omega)).trans (b.Q j (by omega))
    · exact (oA _ (by omega) (by omega) (by omega) (fun _ => by omega)).trans (b.R j hj)
    · exact (oA _ (by omega) (by omega) (by omega) (fun _ => by omega)).trans (b.S j hj)
    · rw [hW]
      exact hb.setCell (p := ⟨el, i, none⟩) (show w0.heap.size ≤ el by omega) _
  have bel : ∀ {w' : World} {q : Nat}, But2 cb q w1 w' → w0.heap.size ≤ q → Below w0.heap.size w0 w' := fun {w'} {q} h hq =>
    ⟨h.os.trans be1.os, h.tape.trans be1.tape, h.output.trans be1.output, Nat.le_trans be1.size h.size, fun k hk => (h.block k (by omega) (by omega) (by omega)).trans (be1.block k hk)⟩
  by_cases h0 : i = 0
  · rw [if_pos h0, if_pos h0] at C1
    refine (push_first cb _ _ _ _ _ _ _ (B0 + 4 * i + 2) _ w1 C1).mono ?_
    rintro e w' ⟨rfl, p1, p2, p3, p4⟩
    rw [z1] at p3 p4 ⊢
    refine ⟨rfl, fin w' p1 (bel p2 (by omega)) (fun k a1 a2 _ => p2.block k (by omega) a2 a2) (fun h => (by omega)) ?_ ?_⟩
    · rw [if_pos h0]; exact p3
    · subst h0; exact p4
  · rw [if_neg h0, if_neg h0] at C1
    have L1 := (o1 _ (by omega)).trans (b.E (i - 1) (by omega))
    rw [if_neg (show ¬ i - 1 + 1 < i by omega)] at L1
    refine (push_more cb (B0 + 4 * (i - 1) + 3) _ _ _ _ _ _ _ _ (B0 + 4 * i + 2) _ i w1 (by omega) (by omega) C1 L1).mono ?_
    rintro e w' ⟨rfl, p1, p2, p3, p4, p5⟩
    rw [z1] at p3 p4 p5 ⊢
    refine ⟨rfl, fin w' p1 (bel p2 (by omega)) (fun k a1 a2 a3 => p2.block k (by omega) a2 (a3 (by omega))) (fun h => p5) ?_ p4⟩
    rw [if_neg h0]; exact p3
/-- 'c.byAt[uniq[i]] = elems[i]'. -/
theorem Bg.put (b : Bg w0 w cb M B0 el rl n sz us ua nilI (i + 1) (i + 1) i (B0 + 4 * (i + 1))) (hi : i < n) :
    ∃ w', (Instr.mapUpdate 24 (.map (some M)) (.int .i64 (us i)) (ptr (B0 + 4 * i + 3))).run Yba.prog w = .ok () w' ∧ Bu w0 w' cb M B0 el rl n sz us ua nilI (i + 1) := by
  have k0 := b.hn
  have k1 := b.hM
  have k2 := b.hcb
  have k3 := b.hel
  have k4 := b.hrl
  have k5 := b.h0
  have k6 := b.hsz
  obtain ⟨w', h1, h2, h3⟩ := b.mp.store (by omega) (fun j hj e => by have := b.inj j i (by omega) hi e; omega) (b.wfu i hi)
  have hz : w'.heap.size = w.heap.size := by
    obtain ⟨D, hown, _⟩ := b.mp
    obtain ⟨w2, hrun, _, hturn⟩ := hown.store lawK Yba.underlying24 (by unfold maxLen; omega) (keyI _ (b.wfu i hi)) (show heldR (ptr (B0 + 4 * i + 3)) = some (.held (ptr (B0 + 4 * i + 3)), []) from rfl)
    have e : w' = w2 := by
      have := h1.symm.trans hrun
      injection this
    obtain ⟨es, cl, es', cl', _, h4⟩ := hturn
    rw [e, h4]
    simp [Go.ChangeMaps.setBlock]
  have oth : ∀ k, k < B0 + 4 * (i + 1) → k ≠ M → w'.heap[k]? = w.heap[k]? := fun k a1 a2 => h3.block k (by omega) (by intro e; injection e; omega)
  refine ⟨w', h1, b.hn, b.hi, by omega, k1, k2, k3, k4, k5, (oth cb (by omega) (by omega)).trans b.cC, ?_, ?_, fun j hj => ?_, fun j hj => (oth _ (by omega) (by omega)).trans (b.E j hj), fun j hj => (oth _ (by omega) (by omega)).trans (b.Q j hj), fun j hj => (oth _ (by omega) (by omega)).trans (b.R j hj), fun j hj => (oth _ (by omega) (by omega)).trans (b.S j hj), h2, b.wfu, b.inj, b.be.grown h3 (by omega) (fun k e => by injection e; omega)⟩
  · obtain ⟨ce, h1, h2⟩ := b.els
    exact ⟨ce, (oth el (by omega) (by omega)).trans h1, h2⟩
  · obtain ⟨cr, h1, h2⟩ := b.rls
    exact ⟨cr, (oth rl (by omega) (by omega)).trans h1, h2⟩
  · obtain ⟨ub, h1, h2, h3⟩ := b.uq j hj
    refine ⟨ub, h1, h2, ?_⟩
    rw [World.cell?_of_block (w := w) (a := ⟨ub, j, none⟩) (oth ub (by omega) (by omega))]; exact h3
end
end Go.Proofs.Ybulkdjlc.C
