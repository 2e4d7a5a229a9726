import Derived.Test.YbulkdjlcGrow
import Derived.WalkKit
namespace Go.Proofs.Ybulkdjlc.C
open Go.RowKit
set_option linter.unusedVariables false
/-- n nil pointers. -/
def nils (n : Nat) : Array Value := madeCells #[.pointer none] n
theorem nils_at {n j : Nat} (h : j < n) : (nils n)[j]? = some (.pointer none) := by
  unfold nils madeCells
  simp [h, Nat.mod_one]
theorem info32 : (Yba.prog.info? 32).map (fun i => (i.size, i.bytes, i.zero)) = some (1, 8, some (.pointer none)) := by kernel_rfl
theorem info42 : (Yba.prog.info? 42).map (fun i => (i.size, i.bytes, i.zero)) = some (1, 8, some (.pointer none)) := by kernel_rfl
theorem make_ptr {t e : TypeId} (ht : Yba.prog.underlying t = some (.slice e)) (hi : (Yba.prog.info? e).map (fun i => (i.size, i.bytes, i.zero)) = some (1, 8, some (.pointer none))) (n : Nat) (hn : n ≤ 4096) (w : World) :
    (Instr.makeSlice t (.int .i64 (n : Int)) (.int .i64 (n : Int))).run Yba.prog w = .ok (.slice (some ⟨w.heap.size, 0, none⟩) n n) (w.alloc (.cells (nils n) e)) := by
  cases hj : Yba.prog.info? e with
  | none => rw [hj] at hi; cases hi
  | some i =>
    rw [hj] at hi
    simp at hi
    obtain ⟨h1, h2, h3⟩ := hi
    have hr := run_make (P := Yba.prog) w t e i (.pointer none) ht hj h3 .i64 .i64 n n (by omega) (Int.le_refl _) (by rw [h2]; omega) (by omega)
    simp only [Int.toNat_natCast, h1, Nat.mul_one] at hr
    exact hr
theorem make40 (n : Nat) (hn : n ≤ 4096) (w : World) : (Instr.makeSlice 40 (.int .i64 (n : Int)) (.int .i64 (n : Int))).run Yba.prog w = .ok (.slice (some ⟨w.heap.size, 0, none⟩) n n) (w.alloc (.cells (nils n) 32)) := make_ptr Yba.underlying40 info32 n hn w
theorem make41 (n : Nat) (hn : n ≤ 4096) (w : World) : (Instr.makeSlice 41 (.int .i64 (n : Int)) (.int .i64 (n : Int))).run Yba.prog w = .ok (.slice (some ⟨w.heap.size, 0, none⟩) n n) (w.alloc (.cells (nils n) 42)) := make_ptr Yba.underlying41 info42 n hn w
/-- The state ahead of the building loop. -/
theorem bu_zero {w0 w : World} {n : Nat} {sz : Int} {us : Nat → Int} {ua : Option Addr} {nilI : Value} (hn : n ≤ 4096) (hb : Below w0.heap.size w0 w)
    (uq : ∀ j, j < n → ∃ ub, ua = some ⟨ub, 0, none⟩ ∧ ub < w.heap.size ∧ w.cell? ⟨ub, j, none⟩ = some (.int .i64 (us j)))
    (wfu : ∀ j, j < n → (Lit.int .i64 (us j)).wf = true) (inj : ∀ a b, a < n → b < n → us a = us b → a = b) (W : World)
    (hW : W = (((w.alloc (.map #[] 0)).alloc (.cells #[.int .i32 0, .int .u32 0, .int .i64 sz, .pointer none, .pointer none, .pointer none, nilI, .int .i64 0, .map (some w.heap.size)] 39)).alloc (.cells (nils n) 32)).alloc (.cells (nils n) 42)) :
    Bu w0 W (w.heap.size + 1) w.heap.size (w.heap.size + 4) (w.heap.size + 2) (w.heap.size + 3) n sz us ua nilI 0 := by
  obtain ⟨w1, hw1⟩ : ∃ w1, w1 = w.alloc (.map #[] 0) := ⟨_, rfl⟩
  rw [← hw1] at hW
  obtain ⟨w2, hw2⟩ : ∃ w2, w2 = w1.alloc (.cells #[.int .i32 0, .int .u32 0, .int .i64 sz, .pointer none, .pointer none, .pointer none, nilI, .int .i64 0, .map (some w.heap.size)] 39) := ⟨_, rfl⟩
  rw [← hw2] at hW
  obtain ⟨w3, hw3⟩ : ∃ w3, w3 = w2.alloc (.cells (nils n) 32) := ⟨_, rfl⟩
  rw [← hw3] at hW
  have z1 : w1.heap.size = w.heap.size + 1 := by rw [hw1]; simp
  have z2 : w2.heap.size = w.heap.size + 2 := by rw [hw2]; simp [z1]
  have z3 : w3.heap.size = w.heap.size + 3 := by rw [hw3]; simp [z2]
  have z4 : W.heap.size = w.heap.size + 4 := by rw [hW]; simp [z3]
  have o3 : ∀ k, k < w.heap.size + 3 → W.heap[k]? = w3.heap[k]? := fun k h => by rw [hW, Below.heap_alloc _ _ k (by omega)]
  have o2 : ∀ k, k < w.heap.size + 2 → W.heap[k]? = w2.heap[k]? := fun k h => by rw [o3 k (by omega), hw3, Below.heap_alloc _ _ k (by omega)]
  have o1 : ∀ k, k < w.heap.size + 1 → W.heap[k]? = w1.heap[k]? := fun k h => by rw [o2 k (by omega), hw2, Below.heap_alloc _ _ k (by omega)]
  have o0 : ∀ k, k < w.heap.size → W.heap[k]? = w.heap[k]? := fun k h => by rw [o1 k (by omega), hw1, Below.heap_alloc _ _ k (by omega)]
  have hle : w0.heap.size ≤ w.heap.size := hb.size
  refine ⟨hn, Nat.zero_le _, by omega, rfl, rfl, rfl, rfl, hle, ?_, ⟨nils n, ?_, fun j hj => ?_⟩, ⟨nils n, ?_, fun j hj => ?_⟩, fun j hj => ?_, fun j hj => (by omega), fun j hj => (by omega), fun j hj => (by omega), fun j hj => (by omega), ?_, wfu, inj, ?_⟩
  · rw [o2 _ (by omega), hw2, ← z1]; exact heap_alloc_new _ _
  · rw [o3 _ (by omega), hw3, ← z2]; exact heap_alloc_new _ _
  · rw [nils_at hj]; rfl
  · rw [hW, ← z3]; exact heap_alloc_new _ _
  · rw [nils_at hj]; rfl
  · obtain ⟨ub, h1, h2, h3⟩ := uq j hj
    refine ⟨ub, h1, h2, ?_⟩
    rw [World.cell?_of_block (w := w) (a := ⟨ub, j, none⟩) (o0 ub h2)]; exact h3
  · refine (mapB_made w us _).keep ?_
    rw [o1 _ (by omega), hw1]
  · rw [hW]
    have b1 : Below w0.heap.size w0 w1 := by rw [hw1]; exact hb.alloc hle _
    have b2 : Below w0.heap.size w0 w2 := by rw [hw2]; exact b1.alloc (by omega) _
    have b3 : Below w0.heap.size w0 w3 := by rw [hw3]; exact b2.alloc (by omega) _
    exact b3.alloc (by omega) _
end Go.Proofs.Ybulkdjlc.C
