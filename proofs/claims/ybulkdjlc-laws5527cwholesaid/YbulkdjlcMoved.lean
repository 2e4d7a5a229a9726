import Derived.Test.YbulkdjlcBuilt
import Derived.WalkKit
namespace Go.Proofs.Ybulkdjlc.C
open Go.RowKit
set_option linter.unusedVariables false
/-- An element's block: its next, list and value. -/
def El (w : World) (b : Nat) (x c d : Value) : Prop := ∃ pv, w.heap[b]? = some (.cells #[x, pv, c, d] 35 (0, 0))
theorem El.set1 {w : World} {b : Nat} {x c d : Value} (h : El w b x c d) (b' : Nat) (v : Value) : El (w.setCell ⟨b', 1, none⟩ v) b x c d := by
  obtain ⟨pv, h⟩ := h
  by_cases e : b = b'
  · subst e; exact ⟨v, same_step v h⟩
  · exact ⟨pv, else_step v e h⟩
theorem El.set0 {w : World} {b : Nat} {x c d : Value} (h : El w b x c d) (v : Value) : El (w.setCell ⟨b, 0, none⟩ v) b v c d := by
  obtain ⟨pv, h⟩ := h
  exact ⟨pv, same_step v h⟩
theorem El.other {w : World} {b : Nat} {x c d : Value} (h : El w b x c d) {a : Addr} (e : b ≠ a.block) (v : Value) : El (w.setCell a v) b x c d := by
  obtain ⟨pv, h⟩ := h
  exact ⟨pv, (Below.heap_setCell w a v b e).trans h⟩
theorem El.drew {w : World} {b : Nat} {x c d : Value} (h : El w b x c d) : El w.drew b x c d := h
/-- The stores of 'move' to the head. -/
def sets (w : World) (cb pb eb fb : Nat) (xv : Value) (xa : Addr) : World :=
  (((((w.setCell ⟨pb, 0, none⟩ xv).setCell xa (ptr pb)).setCell ⟨eb, 1, none⟩ (root cb)).setCell ⟨eb, 0, none⟩ (ptr fb)).setCell ⟨cb, 3, none⟩ (ptr eb)).setCell ⟨fb, 1, none⟩ (ptr eb)
/-- The world behind it. -/
def moved (w : World) (cb pb eb fb : Nat) (xv : Value) (xa : Addr) : World := (sets w cb pb eb fb xv xa).drew.drew
theorem moved_heap (w : World) (cb pb eb fb : Nat) (xv : Value) (xa : Addr) : (moved w cb pb eb fb xv xa).heap = (sets w cb pb eb fb xv xa).heap := by
  unfold moved
  generalize sets w cb pb eb fb xv xa = s
  rfl
theorem moved_other {w : World} {cb pb eb fb : Nat} {xv : Value} {xa : Addr} {k : Nat} (h1 : k ≠ cb) (h2 : k ≠ pb) (h3 : k ≠ eb) (h4 : k ≠ fb) (h5 : k ≠ xa.block) : (moved w cb pb eb fb xv xa).heap[k]? = w.heap[k]? := by
  rw [moved_heap, sets, Below.heap_setCell _ _ _ _ h4, Below.heap_setCell _ _ _ _ h1, Below.heap_setCell _ _ _ _ h3, Below.heap_setCell _ _ _ _ h3, Below.heap_setCell _ _ _ _ h5, Below.heap_setCell _ _ _ _ h2]
theorem below_moved {B : Nat} {w0 w : World} {cb pb eb fb : Nat} {xv : Value} {xa : Addr} (h : Below B w0 w) (h1 : B ≤ cb) (h2 : B ≤ pb) (h3 : B ≤ eb) (h4 : B ≤ fb) (h5 : B ≤ xa.block) : Below B w0 (moved w cb pb eb fb xv xa) :=
  by
  refine Below.drew (Below.drew ?_)
  unfold sets
  exact ((((((h.setCell h2 _).setCell h5 _).setCell h3 _).setCell h3 _).setCell h1 _).setCell h4 _)
/-- What get leaves. -/
structure Got (w0 w : World) (cb M B0 el rl n : Nat) (sz : Int) (l : Int) (us : Nat → Int) (ua : Option Addr) (h : Int) : Prop where
  fin : Fin w cb B0 el rl n h us ua
  cc : ∃ s1 p3 p4 li va, w.heap[cb]? = some (.cells #[.int .i32 l, s1, .int .i64 sz, p3, p4, li, va, .int .i64 n, .map (some M)] 39 (0, 0))
  mp : MapB w M us (fun j => ptr (B0 + 4 * j + 3)) n
  be : Below w0.heap.size w0 w
  ub : ∀ ub, ua = some ⟨ub, 0, none⟩ → ub ≠ cb
  hM : M ≠ cb
  h0 : w0.heap.size ≤ cb
theorem Got.lock {w0 w : World} {cb M B0 el rl n : Nat} {sz l : Int} {us : Nat → Int} {ua : Option Addr} {h : Int} (g : Got w0 w cb M B0 el rl n sz l us ua h) (v : Int) : Got w0 (w.setCell ⟨cb, 0, none⟩ (.int .i32 v)) cb M B0 el rl n sz v us ua h := by
  obtain ⟨s1, p3, p4, li, va, hc⟩ := g.cc
  exact ⟨g.fin.lock _ g.ub, ⟨s1, p3, p4, li, va, same_step _ hc⟩, g.mp.keep (Below.heap_setCell _ ⟨cb, 0, none⟩ _ M g.hM), g.be.setCell g.h0 _, g.ub, g.hM, g.h0⟩
theorem ordH_nat (h k : Nat) : ordH h k = if k = 0 then h else if k ≤ h then k - 1 else k := by
  unfold ordH
  rw [if_neg (by omega)]
  by_cases e0 : k = 0
  · rw [if_pos e0, if_pos e0]; simp
  · rw [if_neg e0, if_neg e0]
    by_cases e1 : k ≤ h
    · rw [if_pos (by omega), if_pos e1]
    · rw [if_neg (by omega), if_neg e1]
theorem ordH_case {h k n : Nat} (h1 : 1 ≤ h) (hh : h < n) (hk : k < n) : (k = 0 ∧ ordH h k = h ∧ ordH h (k + 1) = 0) ∨ (1 ≤ k ∧ k < h ∧ ordH h k + 1 = k ∧ ordH h (k + 1) = k) ∨ (k = h ∧ ordH h k + 1 = h ∧ ordH h (k + 1) = h + 1) ∨ (h < k ∧ ordH h k = k ∧ ordH h (k + 1) = k + 1) := by
  rw [ordH_nat, ordH_nat]
  by_cases e0 : k = 0
  · left; subst e0; exact ⟨rfl, by rw [if_pos rfl], by rw [if_neg (by omega), if_pos (by omega)]⟩
  · right
    rw [if_neg e0, if_neg (show ¬ k + 1 = 0 by omega)]
    by_cases e1 : k < h
    · left; rw [if_pos (by omega), if_pos (by omega)]; omega
    · right
      by_cases e2 : k = h
      · left; rw [if_pos (by omega), if_neg (by omega)]; omega
      · right; rw [if_neg (by omega), if_neg (by omega)]; omega
theorem got_id {w0 w : World} {cb M B0 el rl n : Nat} {sz : Int} {us : Nat → Int} {ua : Option Addr} {nilI : Value} (b : Bu w0 w cb M B0 el rl n sz us ua nilI n) (h : Int) (hh : h = -1 ∨ h = 0 ∧ 0 < n) (hub : ∀ ub, ua = some ⟨ub, 0, none⟩ → ub ≠ cb) : Got w0 w cb M B0 el rl n sz 0 us ua h := by
  have h1 := b.hM
  have h2 := b.h0
  exact ⟨fin_id b h hh, ⟨_, _, _, _, _, b.cC⟩, b.mp, b.be, hub, by omega, by omega⟩
/-- Behind 'move' of the h-th, h > 0. -/
theorem got_moved {w0 w : World} {cb M B0 el rl n : Nat} {sz : Int} {us : Nat → Int} {ua : Option Addr} {nilI : Value} (b : Bu w0 w cb M B0 el rl n sz us ua nilI n) (hub : ∀ ub, ua = some ⟨ub, 0, none⟩ → ub < M) (h : Nat) (h1 : 1 ≤ h) (hh : h < n) (xv : Value) (xa : Addr)
    (hx : (h + 1 < n ∧ xv = ptr (B0 + 4 * (h + 1) + 3) ∧ xa = ⟨B0 + 4 * (h + 1) + 3, 1, none⟩) ∨ (h + 1 = n ∧ xv = root cb ∧ xa = ⟨cb, 4, none⟩)) :
    Got w0 (moved (w.setCell ⟨cb, 0, none⟩ (.int .i32 1)) cb (B0 + 4 * (h - 1) + 3) (B0 + 4 * h + 3) (B0 + 3) xv xa) cb M B0 el rl n sz 1 us ua h := by
  have k1 := b.hM
  have k2 := b.hcb
  have k3 := b.hel
  have k4 := b.hrl
  have k5 := b.h0
  obtain ⟨W, hW⟩ : ∃ W, W = moved (w.setCell ⟨cb, 0, none⟩ (.int .i32 1)) cb (B0 + 4 * (h - 1) + 3) (B0 + 4 * h + 3) (B0 + 3) xv xa := ⟨_, rfl⟩
  rw [← hW]
  have xb : xa.block = B0 + 4 * (h + 1) + 3 ∨ xa.block = cb := by rcases hx with ⟨_, _, rfl⟩ | ⟨_, _, rfl⟩; exact .inl rfl; exact .inr rfl
  have oth : ∀ k, k ≠ cb → (∀ j, k ≠ B0 + 4 * j + 3) → W.heap[k]? = w.heap[k]? := fun k e1 e2 => by
    rw [hW, moved_other e1 (e2 _) (e2 _) (by have := e2 0; omega) (by rcases xb with e | e <;> rw [e]; exact e2 _; exact e1)]
    exact Below.heap_setCell w ⟨cb, 0, none⟩ _ k e1
  have hE : ∀ j, j < n → El W (B0 + 4 * j + 3) (if j = h then ptr (B0 + 3) else if j + 1 = h then (if h + 1 < n then ptr (B0 + 4 * (h + 1) + 3) else root cb) else if j + 1 < n then ptr (B0 + 4 * (j + 1) + 3) else root cb) (root cb) (.iface 48 (ptr (B0 + 4 * j + 2))) := fun j hj => by
    have a0 : El (w.setCell ⟨cb, 0, none⟩ (.int .i32 1)) (B0 + 4 * j + 3) (if j + 1 < n then ptr (B0 + 4 * (j + 1) + 3) else root cb) (root cb) (.iface 48 (ptr (B0 + 4 * j + 2))) :=
      El.other ⟨_, b.E j hj⟩ (show B0 + 4 * j + 3 ≠ cb by omega) _
    have a2 : ∀ {w' : World} {x : Value}, El w' (B0 + 4 * j + 3) x (root cb) (.iface 48 (ptr (B0 + 4 * j + 2))) → El (w'.setCell xa (ptr (B0 + 4 * (h - 1) + 3))) (B0 + 4 * j + 3) x (root cb) (.iface 48 (ptr (B0 + 4 * j + 2))) := fun hE => by
      rcases hx with ⟨_, _, rfl⟩ | ⟨_, _, rfl⟩
      · exact hE.set1 _ _
      · exact hE.other (show B0 + 4 * j + 3 ≠ cb by omega) _
    have xe : xv = if h + 1 < n then ptr (B0 + 4 * (h + 1) + 3) else root cb := by
      rcases hx with ⟨e, rfl, _⟩ | ⟨e, rfl, _⟩
      · rw [if_pos e]
      · rw [if_neg (by omega)]
    rw [hW]
    refine El.drew (El.drew ?_)
    unfold sets
    by_cases e1 : j = h
    · subst e1
      rw [if_pos rfl]
      exact (((((a2 (a0.other (a := ⟨B0 + 4 * (j - 1) + 3, 0, none⟩) (show B0 + 4 * j + 3 ≠ B0 + 4 * (j - 1) + 3 by omega) _)).set1 _ _).set0 _).other (a := ⟨cb, 3, none⟩) (show B0 + 4 * j + 3 ≠ cb by omega) _).set1 _ _)
    · rw [if_neg e1]
      by_cases e2 : j + 1 = h
      · subst e2
        rw [if_pos rfl, ← xe]
        exact (((((a2 (a0.set0 _)).set1 _ _).other (a := ⟨B0 + 4 * (j + 1) + 3, 0, none⟩) (show B0 + 4 * j + 3 ≠ B0 + 4 * (j + 1) + 3 by omega) _).other (a := ⟨cb, 3, none⟩) (show B0 + 4 * j + 3 ≠ cb by omega) _).set1 _ _)
      · rw [if_neg e2]
        exact (((((a2 (a0.other (a := ⟨B0 + 4 * (h - 1) + 3, 0, none⟩) (show B0 + 4 * j + 3 ≠ B0 + 4 * (h - 1) + 3 by omega) _)).set1 _ _).other (a := ⟨B0 + 4 * h + 3, 0, none⟩) (show B0 + 4 * j + 3 ≠ B0 + 4 * h + 3 by omega) _).other (a := ⟨cb, 3, none⟩) (show B0 + 4 * j + 3 ≠ cb by omega) _).set1 _ _)
  have hC : ∃ s1 p4 li va, W.heap[cb]? = some (.cells #[.int .i32 1, s1, .int .i64 sz, ptr (B0 + 4 * h + 3), p4, li, va, .int .i64 n, .map (some M)] 39 (0, 0)) := by
    have c0 := same_step (k := 0) (.int .i32 1) b.cC
    rw [hW, moved_heap, sets]
    rcases hx with ⟨_, _, rfl⟩ | ⟨_, _, rfl⟩
    · exact ⟨_, _, _, _, else_step _ (show cb ≠ B0 + 3 by omega) (same_step _ (else_step _ (show cb ≠ B0 + 4 * h + 3 by omega) (else_step _ (show cb ≠ B0 + 4 * h + 3 by omega) (else_step _ (show cb ≠ B0 + 4 * (h + 1) + 3 by omega) (else_step _ (show cb ≠ B0 + 4 * (h - 1) + 3 by omega) c0)))))⟩
    · exact ⟨_, _, _, _, else_step _ (show cb ≠ B0 + 3 by omega) (same_step _ (else_step _ (show cb ≠ B0 + 4 * h + 3 by omega) (else_step _ (show cb ≠ B0 + 4 * h + 3 by omega) (same_step _ (else_step _ (show cb ≠ B0 + 4 * (h - 1) + 3 by omega) c0)))))⟩
  obtain ⟨s1, p4, li, va, hC⟩ := hC
  have e0 : ordH h 0 = h := by rcases ordH_case h1 hh (show 0 < n by omega) with h | h | h | h <;> omega
  refine ⟨⟨b.hn, by omega, by omega, by omega, by omega, by omega, ⟨_, hC, rfl, fun _ => by rw [e0]; rfl⟩, ?_, ?_, fun j hj => ?_, fun k hk => ?_, fun j hj => ?_, fun j hj => ?_, fun j hj => ?_⟩, ⟨_, _, _, _, _, hC⟩, b.mp.keep (oth M (by omega) (fun j => by omega)), ?_, fun ub e => ?_, by omega, by omega⟩
  · obtain ⟨ce, h1, h2⟩ := b.els
    exact ⟨ce, (oth el (by omega) (fun j => by omega)).trans h1, fun j hj => by rw [h2 j hj, if_pos hj]⟩
  · obtain ⟨ce, h1, h2⟩ := b.rls
    exact ⟨ce, (oth rl (by omega) (fun j => by omega)).trans h1, fun j hj => by rw [h2 j hj, if_pos hj]⟩
  · obtain ⟨ub, h1, h2, h3⟩ := b.uq j hj
    refine ⟨ub, h1, ?_⟩
    rw [World.cell?_of_block (w := w) (a := ⟨ub, j, none⟩) (oth ub (by omega) (fun j => by omega))]; exact h3
  · rcases ordH_case h1 hh hk with ⟨c1, c2, c3⟩ | ⟨c1, c1', c2, c3⟩ | ⟨c1, c2, c3⟩ | ⟨c1, c2, c3⟩
    · have := hE h hh
      rw [c2, c3, if_pos (show k + 1 < n by omega)]
      rw [if_pos rfl] at this
      exact this
    · obtain ⟨o, ho⟩ : ∃ o, o = ordH h k := ⟨_, rfl⟩
      rw [← ho] at c2 ⊢
      have := hE o (by omega)
      rw [if_neg (by omega), if_neg (by omega), if_pos (by omega)] at this
      rw [c3, if_pos (show k + 1 < n by omega), ← c2]
      exact this
    · obtain ⟨o, ho⟩ : ∃ o, o = ordH h k := ⟨_, rfl⟩
      rw [← ho] at c2 ⊢
      have := hE o (by omega)
      rw [if_neg (by omega), if_pos (by omega)] at this
      rw [c3, c1]
      exact this
    · have := hE k hk
      rw [if_neg (by omega), if_neg (by omega)] at this
      rw [c2, c3]
      exact this
  · exact (oth _ (by omega) (fun i => by omega)).trans (b.Q j hj)
  · exact (oth _ (by omega) (fun i => by omega)).trans (b.R j hj)
  · exact (oth _ (by omega) (fun i => by omega)).trans (b.S j hj)
  · rw [hW]
    exact below_moved (b.be.setCell (show w0.heap.size ≤ cb by omega) _) (by omega) (by omega) (by omega) (by omega) (by rcases xb with e | e <;> omega)
  · have := hub ub e; omega
end Go.Proofs.Ybulkdjlc.C
