import Derived.Test.YbulkdjhwAFill
import Derived.WalkKit
import Derived.WalkSpells
import Derived.BigQuiet
import Derived.Deep.QuietTactic
import Derived.Laws.CopyOwn
import Derived.Laws.ResultCell
import Derived.Maps.OwnSet
namespace Go.Proofs.Ybulkdjhw.A
open Go.RowKit
set_option linter.unusedVariables false
theorem alphaV_lit : alphaV = #[.int .i32 65, .int .i32 66, .int .i32 67, .int .i32 68, .int .i32 69, .int .i32 192, .int .i32 768, .int .i32 4352, .int .i32 4449, .int .i32 44032, .int .i32 44033, .int .i32 55203] := rfl
structure Base (w : World) (A B : Nat) (c x : Tab) (vc vx : Nat → Value) : Prop where
  alp : w.heap[A]? = some (.cells alphaV 24 (0, 0))
  cH : w.heap[A + 1]? = some (.cells (hasA c) 26 (0, 0))
  xH : w.heap[A + 1 + 1]? = some (.cells (hasA x) 26 (0, 0))
  cI : w.heap[A + 1 + 1 + 1]? = some (.cells (idxA vc) 28 (0, 0))
  xI : w.heap[A + 1 + 1 + 1 + 1]? = some (.cells (idxA vx) 28 (0, 0))
  lt : A + 1 + 1 + 1 + 1 < B
  cR : ∀ i l, c i = some l → IdxRow w B (vc i) l
  xR : ∀ i l, x i = some l → IdxRow w B (vx i) l
theorem Base.below {w w' : World} {A B : Nat} {c x : Tab} {vc vx : Nat → Value} (h : Base w A B c x vc vx) (hb : Below B w w') : Base w' A B c x vc vx := by
  have := h.lt
  exact ⟨(hb.block _ (by omega)).trans h.alp, (hb.block _ (by omega)).trans h.cH, (hb.block _ (by omega)).trans h.xH, (hb.block _ (by omega)).trans h.cI, (hb.block _ (by omega)).trans h.xI, h.lt, fun i l hl => (h.cR i l hl).below hb, fun i l hl => (h.xR i l hl).below hb⟩


theorem five_blocks (w : World) (o1 o2 o3 o4 o5 : Obj) :
    let W := ((((w.alloc o1).alloc o2).alloc o3).alloc o4).alloc o5
    W.heap[w.heap.size]? = some o1 ∧ W.heap[w.heap.size + 1]? = some o2 ∧ W.heap[w.heap.size + 1 + 1]? = some o3 ∧ W.heap[w.heap.size + 1 + 1 + 1]? = some o4 ∧ W.heap[w.heap.size + 1 + 1 + 1 + 1]? = some o5 ∧ W.heap.size = w.heap.size + 1 + 1 + 1 + 1 + 1 := by
  intro W
  obtain ⟨h1, h2, h3⟩ := three_blocks w o1 o2 o3
  have s3 : (((w.alloc o1).alloc o2).alloc o3).heap.size = w.heap.size + 1 + 1 + 1 := by simp
  have s4 : ((((w.alloc o1).alloc o2).alloc o3).alloc o4).heap.size = w.heap.size + 1 + 1 + 1 + 1 := by simp
  have up : ∀ k, k < w.heap.size + 1 + 1 + 1 → W.heap[k]? = (((w.alloc o1).alloc o2).alloc o3).heap[k]? := fun k hk => by
    show (((((w.alloc o1).alloc o2).alloc o3).alloc o4).alloc o5).heap[k]? = _
    rw [Below.heap_alloc _ _ _ (by omega), Below.heap_alloc _ _ _ (by omega)]
  refine ⟨(up _ (by omega)).trans h1, (up _ (by omega)).trans h2, (up _ (by omega)).trans h3, ?_, ?_, ?_⟩
  · show (((((w.alloc o1).alloc o2).alloc o3).alloc o4).alloc o5).heap[_]? = _
    rw [Below.heap_alloc _ _ _ (by omega), ← s3]; exact heap_alloc_new _ o4
  · show (((((w.alloc o1).alloc o2).alloc o3).alloc o4).alloc o5).heap[_]? = _
    rw [← s4]; exact heap_alloc_new _ o5
  · show (((((w.alloc o1).alloc o2).alloc o3).alloc o4).alloc o5).heap.size = _
    simp

abbrev nilV : Nat → Value := fun _ => .slice none 0 0

/-- The five arrays as the law lays them. -/
structure Five (W : World) (A : Nat) : Prop where
  alp : W.heap[A]? = some (.cells alphaV 24 (0, 0))
  cH : W.heap[A + 1]? = some (.cells (hasA tab0) 26 (0, 0))
  xH : W.heap[A + 1 + 1]? = some (.cells (hasA tab0) 26 (0, 0))
  cI : W.heap[A + 1 + 1 + 1]? = some (.cells (idxA nilV) 28 (0, 0))
  xI : W.heap[A + 1 + 1 + 1 + 1]? = some (.cells (idxA nilV) 28 (0, 0))
  size : W.heap.size = A + 1 + 1 + 1 + 1 + 1
theorem Five.fill1 {W : World} {A : Nat} (h : Five W A) : FillSt W W (A + 1) (A + 1 + 1 + 1) tab0 nilV :=
  ⟨h.cH, h.cI, fun i l hl => (by cases hl), But2.refl _ _ _⟩
theorem But2.below {p q A : Nat} {w w' : World} (h : But2 p q w w') (hp : A ≤ p) (hq : A ≤ q) (hA : A ≤ w.heap.size) : Below A w w' :=
  ⟨h.os, h.tape, h.output, h.size, fun k hk => h.block k (by omega) (by omega) (by omega)⟩
theorem base_nil {W w2 : World} {A : Nat} (h : Five W A) {c : Tab} {vc : Nat → Value} (F : FillSt W w2 (A + 1) (A + 1 + 1 + 1) c vc) : Base w2 A w2.heap.size c tab0 vc nilV := by
  have hs := h.size
  have hk := F.kept.size
  refine ⟨?_, F.has, ?_, F.idx, ?_, by omega, fun i l hl => ?_, fun i l hl => by cases hl⟩
  · exact (F.kept.block A (by omega) (by omega) (by omega)).trans h.alp
  · exact (F.kept.block (A + 1 + 1) (by omega) (by omega) (by omega)).trans h.xH
  · exact (F.kept.block (A + 1 + 1 + 1 + 1) (by omega) (by omega) (by omega)).trans h.xI
  · obtain ⟨g, cap, hu, _, hg2, hc⟩ := F.rows i l hl
    exact ⟨g, cap, hu, hg2, hc⟩
theorem fill2 {W w2 : World} {A : Nat} (h : Five W A) {c : Tab} {vc : Nat → Value} (F : FillSt W w2 (A + 1) (A + 1 + 1 + 1) c vc) : FillSt w2 w2 (A + 1 + 1) (A + 1 + 1 + 1 + 1) tab0 nilV := by
  have hs := h.size
  exact ⟨(F.kept.block (A + 1 + 1) (by omega) (by omega) (by omega)).trans h.xH, (F.kept.block (A + 1 + 1 + 1 + 1) (by omega) (by omega) (by omega)).trans h.xI, fun i l hl => (by cases hl), But2.refl _ _ _⟩
theorem base_both {W w2 w3 : World} {A : Nat} (h : Five W A) {c x : Tab} {vc vx : Nat → Value} (F : FillSt W w2 (A + 1) (A + 1 + 1 + 1) c vc) (G : FillSt w2 w3 (A + 1 + 1) (A + 1 + 1 + 1 + 1) x vx) : Base w3 A w3.heap.size c x vc vx := by
  have hs := h.size
  have hk := F.kept.size
  have hk2 := G.kept.size
  refine ⟨?_, ?_, G.has, ?_, G.idx, by omega, fun i l hl => ?_, fun i l hl => ?_⟩
  · exact (G.kept.block A (by omega) (by omega) (by omega)).trans ((F.kept.block A (by omega) (by omega) (by omega)).trans h.alp)
  · exact (G.kept.block (A + 1) (by omega) (by omega) (by omega)).trans F.has
  · exact (G.kept.block (A + 1 + 1 + 1) (by omega) (by omega) (by omega)).trans F.idx
  · obtain ⟨g, cap, hu, hg, hg2, hc⟩ := F.rows i l hl
    exact ⟨g, cap, hu, by omega, fun j hj => (G.kept.cell (a := ⟨g, j, none⟩) hg2 (show g ≠ _ by omega) (show g ≠ _ by omega)).trans (hc j hj)⟩
  · obtain ⟨g, cap, hu, hg, hg2, hc⟩ := G.rows i l hl
    exact ⟨g, cap, hu, hg2, hc⟩

/-! ### the first loop's state -/
def vu (c x : Tab) (vc vx : Nat → Value) (k : Nat) : Nat → Value := fun i => if i < k ∧ (useT c x i).isSome then (if (c i).isSome then vc i else vx i) else .slice none 0 0
def cntA (c x : Tab) (k : Nat) : Array Value := ((List.range 12).map fun i => Value.int .i64 ((if i < k then cn c x i else 0 : Nat) : Int)).toArray
theorem cntA_at (c x : Tab) (k i : Nat) (hi : i < 12) : (cntA c x k)[i]? = some (.int .i64 ((if i < k then cn c x i else 0 : Nat) : Int)) := by simp [cntA, hi]
theorem cntA_set (c x : Tab) (k : Nat) (hk : k < 12) : (cntA c x k).setIfInBounds k (.int .i64 (cn c x k : Int)) = cntA c x (k + 1) := by
  apply Array.ext_getElem?
  intro i
  rw [Array.getElem?_setIfInBounds]
  have h1 : (cntA c x k).size = 12 := by simp [cntA]
  have h2 : (cntA c x (k + 1)).size = 12 := by simp [cntA]
  by_cases hi : i < 12
  · rw [cntA_at _ _ _ i hi, cntA_at _ _ _ i hi]
    by_cases e : k = i
    · subst e; rw [if_pos rfl, if_pos (by omega), if_pos (by omega)]
    · rw [if_neg e]
      by_cases h : i < k
      · rw [if_pos h, if_pos (by omega)]
      · rw [if_neg h, if_neg (by omega)]
  · rw [Array.getElem?_eq_none (by omega), Array.getElem?_eq_none (by omega), if_neg (by omega)]

structure UseSt (w3 wr : World) (U : Nat) (c x : Tab) (vc vx : Nat → Value) (k : Nat) : Prop where
  us : wr.heap[U]? = some (.cells (idxA (vu c x vc vx k)) 28 (0, 0))
  mp : wr.heap[U + 1]? = some (.cells (hasA (tk (useT c x) k)) 26 (0, 0))
  ct : wr.heap[U + 1 + 1]? = some (.cells (cntA c x k) 32 (0, 0))
  be : Below U w3 wr
theorem vu_none {c x : Tab} {vc vx : Nat → Value} {k : Nat} (h : useT c x k = none) : vu c x vc vx (k + 1) = vu c x vc vx k := by
  funext i
  unfold vu
  by_cases e : i = k
  · subst e; rw [h]; simp
  · have : (i < k + 1 ∧ (useT c x i).isSome = true) ↔ (i < k ∧ (useT c x i).isSome = true) := by constructor <;> rintro ⟨a, b⟩ <;> exact ⟨by omega, b⟩
    simp only [this]
theorem vu_some {c x : Tab} {vc vx : Nat → Value} {k : Nat} {l : List Nat} (h : useT c x k = some l) : vu c x vc vx (k + 1) = updV (vu c x vc vx k) k (if (c k).isSome then vc k else vx k) := by
  funext i
  unfold updV
  by_cases e : i = k
  · subst e; rw [if_pos rfl]; unfold vu; rw [if_pos ⟨by omega, by rw [h]; rfl⟩]
  · rw [if_neg e]
    unfold vu
    have : (i < k + 1 ∧ (useT c x i).isSome = true) ↔ (i < k ∧ (useT c x i).isSome = true) := by constructor <;> rintro ⟨a, b⟩ <;> exact ⟨by omega, b⟩
    simp only [this]
theorem UseSt.lt {w3 wr : World} {U : Nat} {c x : Tab} {vc vx : Nat → Value} {k : Nat} (h : UseSt w3 wr U c x vc vx k) : U + 1 + 1 < wr.heap.size := lt_of_block h.ct
/-- A place that is not mapped: its count alone is stored. -/
theorem UseSt.count {w3 wr w2 : World} {U : Nat} {c x : Tab} {vc vx : Nat → Value} {k : Nat} (h : UseSt w3 wr U c x vc vx k) (hk : k < 12) (hu : useT c x k = none) (hb : Below wr.heap.size wr w2) :
    UseSt w3 (w2.setCell ⟨U + 1 + 1, k, none⟩ (.int .i64 (cn c x k : Int))) U c x vc vx (k + 1) := by
  have hlt := h.lt
  have b3 := (hb.block (U + 1 + 1) (by omega)).trans h.ct
  refine ⟨?_, ?_, ?_, (h.be.trans (hb.mono (by omega))).setCell (show U ≤ U + 1 + 1 by omega) _⟩
  · rw [Below.heap_setCell _ ⟨U + 1 + 1, k, none⟩ _ U (show U ≠ U + 1 + 1 by omega), hb.block U (by omega), vu_none hu]; exact h.us
  · rw [Below.heap_setCell _ ⟨U + 1 + 1, k, none⟩ _ (U + 1) (show U + 1 ≠ U + 1 + 1 by omega), hb.block (U + 1) (by omega), tk_none _ k hu]; exact h.mp
  · rw [heap_setCell_same _ _ k _ 32 _ b3, cntA_set c x k hk]
/-- A mapped place: its slice, its mark, its count. -/
theorem UseSt.mapped {w3 wr : World} {U : Nat} {c x : Tab} {vc vx : Nat → Value} {k : Nat} (h : UseSt w3 wr U c x vc vx k) (hk : k < 12) {l : List Nat} (hu : useT c x k = some l) :
    UseSt w3 (((wr.setCell ⟨U, k, none⟩ (if (c k).isSome then vc k else vx k)).setCell ⟨U + 1, k, none⟩ (.bool true)).setCell ⟨U + 1 + 1, k, none⟩ (.int .i64 (cn c x k : Int))) U c x vc vx (k + 1) := by
  have b1 := heap_setCell_same wr U k _ 28 (if (c k).isSome then vc k else vx k) h.us
  have b2 : (wr.setCell ⟨U, k, none⟩ (if (c k).isSome then vc k else vx k)).heap[U + 1]? = some (.cells (hasA (tk (useT c x) k)) 26 (0, 0)) := (Below.heap_setCell wr ⟨U, k, none⟩ _ (U + 1) (show U + 1 ≠ U by omega)).trans h.mp
  have b2' := heap_setCell_same _ (U + 1) k _ 26 (.bool true) b2
  have b3 : ((wr.setCell ⟨U, k, none⟩ (if (c k).isSome then vc k else vx k)).setCell ⟨U + 1, k, none⟩ (.bool true)).heap[U + 1 + 1]? = some (.cells (cntA c x k) 32 (0, 0)) := by
    rw [Below.heap_setCell _ ⟨U + 1, k, none⟩ _ (U + 1 + 1) (show U + 1 + 1 ≠ U + 1 by omega), Below.heap_setCell _ ⟨U, k, none⟩ _ (U + 1 + 1) (show U + 1 + 1 ≠ U by omega)]; exact h.ct
  refine ⟨?_, ?_, ?_, ((h.be.setCell (show U ≤ U by omega) _).setCell (show U ≤ U + 1 by omega) _).setCell (show U ≤ U + 1 + 1 by omega) _⟩
  · rw [Below.heap_setCell _ ⟨U + 1 + 1, k, none⟩ _ U (show U ≠ U + 1 + 1 by omega), Below.heap_setCell _ ⟨U + 1, k, none⟩ _ U (show U ≠ U + 1 by omega), b1, idxA_set _ k _ hk, vu_some hu]
  · rw [Below.heap_setCell _ ⟨U + 1 + 1, k, none⟩ _ (U + 1) (show U + 1 ≠ U + 1 + 1 by omega), b2', tk_some _ k l hu]
    exact congrArg (fun z => some (Obj.cells z 26 (0, 0))) (hasA_set _ k l hk)
  · rw [heap_setCell_same _ _ k _ 32 _ b3, cntA_set c x k hk]
end Go.Proofs.Ybulkdjhw.A
