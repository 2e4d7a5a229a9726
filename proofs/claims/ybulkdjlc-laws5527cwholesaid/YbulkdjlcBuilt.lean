import Derived.Test.YbulkdjlcState
import Derived.Test.YbulkdjlcMap
import Derived.WalkKit
namespace Go.Proofs.Ybulkdjlc.C
open Go.RowKit
set_option linter.unusedVariables false
/-- What the i-th round of the building loop leaves. -/
structure Bu (w0 w : World) (cb M B0 el rl n : Nat) (sz : Int) (us : Nat → Int) (ua : Option Addr) (nilI : Value) (i : Nat) : Prop where
  hn : n ≤ 4096
  hi : i ≤ n
  hsz : w.heap.size = B0 + 4 * i
  hM : M + 1 = cb
  hcb : cb + 1 = el
  hel : el + 1 = rl
  hrl : rl + 1 = B0
  h0 : w0.heap.size ≤ M
  cC : w.heap[cb]? = some (.cells #[.int .i32 0, .int .u32 0, .int .i64 sz, if i = 0 then .pointer none else ptr (B0 + 3), if i = 0 then .pointer none else ptr (B0 + 4 * (i - 1) + 3), .pointer none, nilI, .int .i64 i, .map (some M)] 39 (0, 0))
  els : ∃ ce, w.heap[el]? = some (.cells ce 32 (0, 0)) ∧ ∀ j, j < n → ce[j]? = some (if j < i then ptr (B0 + 4 * j + 3) else .pointer none)
  rls : ∃ cr, w.heap[rl]? = some (.cells cr 42 (0, 0)) ∧ ∀ j, j < n → cr[j]? = some (if j < i then ptr (B0 + 4 * j + 1) else .pointer none)
  uq : ∀ j, j < n → ∃ ub, ua = some ⟨ub, 0, none⟩ ∧ ub < M ∧ w.cell? ⟨ub, j, none⟩ = some (.int .i64 (us j))
  E : ∀ j, j < i → w.heap[B0 + 4 * j + 3]? = some (.cells #[if j + 1 < i then ptr (B0 + 4 * (j + 1) + 3) else root cb, if j = 0 then root cb else ptr (B0 + 4 * (j - 1) + 3), root cb, .iface 48 (ptr (B0 + 4 * j + 2))] 35 (0, 0))
  Q : ∀ j, j < i → w.heap[B0 + 4 * j + 2]? = some (.cells #[.int .i64 (us j), ptr (B0 + 4 * j + 1)] 50 (0, 0))
  R : ∀ j, j < i → w.heap[B0 + 4 * j + 1]? = some (.cells #[.slice none 0 0, .slice (some ⟨B0 + 4 * j, 0, none⟩) 1 1] 46 (0, 0))
  S : ∀ j, j < i → w.heap[B0 + 4 * j]? = some (.cells #[.int .i64 j] 3 (0, 0))
  mp : MapB w M us (fun j => ptr (B0 + 4 * j + 3)) i
  wfu : ∀ j, j < n → (Lit.int .i64 (us j)).wf = true
  inj : ∀ a b, a < n → b < n → us a = us b → a = b
  be : Below w0.heap.size w0 w
theorem ordH_neg (k : Nat) : ordH (-1) k = k := by unfold ordH; rw [if_pos (by omega)]
theorem ordH_zero (k : Nat) : ordH 0 k = k := by
  unfold ordH
  rw [if_neg (by omega)]
  split
  · omega
  · split <;> omega
/-- The order as built: nothing moved, or the first. -/
theorem fin_id {w0 w : World} {cb M B0 el rl n : Nat} {sz : Int} {us : Nat → Int} {ua : Option Addr} {nilI : Value} (b : Bu w0 w cb M B0 el rl n sz us ua nilI n) (h : Int) (hh : h = -1 ∨ h = 0 ∧ 0 < n) : Fin w cb B0 el rl n h us ua := by
  have ho : ∀ k, ordH h k = k := fun k => by rcases hh with rfl | ⟨rfl, _⟩; exact ordH_neg k; exact ordH_zero k
  have h1 := b.hM
  have h2 := b.hcb
  have h3 := b.hel
  have h4 := b.hrl
  refine ⟨b.hn, by omega, by omega, by omega, by omega, by omega, ⟨_, b.cC, rfl, fun hp => ?_⟩, ?_, ?_, fun j hj => ?_, fun k hk => ?_, b.Q, b.R, b.S⟩
  · rw [ho 0, if_neg (by omega)]; rfl
  · obtain ⟨ce, h1, h2⟩ := b.els
    exact ⟨ce, h1, fun j hj => by rw [h2 j hj, if_pos hj]⟩
  · obtain ⟨ce, h1, h2⟩ := b.rls
    exact ⟨ce, h1, fun j hj => by rw [h2 j hj, if_pos hj]⟩
  · obtain ⟨ub, h1, _, h2⟩ := b.uq j hj
    exact ⟨ub, h1, h2⟩
  · rw [ho k, ho (k + 1)]
    exact ⟨_, b.E k hk⟩
/-- The lock's word does not count. -/
theorem Fin.lock {w : World} {cb B0 el rl n : Nat} {h : Int} {us : Nat → Int} {ua : Option Addr} (F : Fin w cb B0 el rl n h us ua) (v : Value) (hub : ∀ ub, ua = some ⟨ub, 0, none⟩ → ub ≠ cb) : Fin (w.setCell ⟨cb, 0, none⟩ v) cb B0 el rl n h us ua := by
  have hcb := F.hcb
  have oth : ∀ k, k ≠ cb → (w.setCell ⟨cb, 0, none⟩ v).heap[k]? = w.heap[k]? := fun k hk => Below.heap_setCell w ⟨cb, 0, none⟩ v k hk
  refine ⟨F.hn, F.hh, F.hcb, F.hel, F.hrl, F.hne, ?_, ?_, ?_, fun j hj => ?_, fun k hk => ?_, fun j hj => ?_, fun j hj => ?_, fun j hj => ?_⟩
  · obtain ⟨cc, h1, h2, h3⟩ := F.cc
    refine ⟨_, same_step v h1, ?_, fun hp => ?_⟩
    · rw [Array.getElem?_setIfInBounds_ne (by omega)]; exact h2
    · rw [Array.getElem?_setIfInBounds_ne (by omega)]; exact h3 hp
  · obtain ⟨ce, h1, h2⟩ := F.els
    exact ⟨ce, (oth _ F.hne.1).trans h1, h2⟩
  · obtain ⟨ce, h1, h2⟩ := F.rls
    exact ⟨ce, (oth _ F.hne.2).trans h1, h2⟩
  · obtain ⟨ub, h1, h2⟩ := F.uq j hj
    refine ⟨ub, h1, ?_⟩
    rw [World.cell?_of_block (w := w) (a := ⟨ub, j, none⟩) (oth ub (hub ub h1))]; exact h2
  · obtain ⟨pv, h1⟩ := F.E k hk
    exact ⟨pv, (oth _ (by omega)).trans h1⟩
  · exact (oth _ (by omega)).trans (F.Q j hj)
  · exact (oth _ (by omega)).trans (F.R j hj)
  · exact (oth _ (by omega)).trans (F.S j hj)
end Go.Proofs.Ybulkdjlc.C
