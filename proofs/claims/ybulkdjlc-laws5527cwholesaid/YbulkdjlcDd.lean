import Derived.Test.YbulkdjlcSmall
import Derived.WalkKit
import Derived.WalkSpells
namespace Go.Proofs.Ybulkdjlc.C
open Go.RowKit
set_option linter.unusedVariables false
theorem info2 : (Yba.prog.info? 2).map (fun i => (i.zero, i.size, i.bytes)) = some (some (.int .i64 0), 1, 8) := by kernel_rfl
theorem info2_parts : ∃ i, Yba.prog.info? 2 = some i ∧ i.zero = some (.int .i64 0) ∧ i.size = 1 ∧ i.bytes = 8 := by
  have h := info2
  cases hj : Yba.prog.info? 2 with
  | none => rw [hj] at h; cases h
  | some i => rw [hj] at h; simp at h; exact ⟨i, rfl, h.1, h.2.1, h.2.2⟩
theorem cells_new_at {w : World} {C : Array Value} {t : TypeId} {n : Nat} {vs : List Value} (hn : w.heap.size = n) (hC : C = vs.toArray) : ∀ j u, vs[j]? = some u → (w.alloc (.cells C t)).cell? ((⟨n, 0, none⟩ : Addr).add j) = some u := by
  subst hn; subst hC
  intro j u hj
  rw [Addr.add_lit, Nat.zero_add, World.cell?_alloc_mark, List.getElem?_toArray, hj]
/-- The state of the outer loop: L, the distinct numbers so far, in the slice v. -/
structure Dd (w0 w : World) (L : List Int) (v : Value) (i : Nat) : Prop where
  row : w.ownsRow w0.heap.size 2 1 v L.length (L.map (Value.int .i64))
  len : L.length ≤ i
  nd : L.Nodup
  wf : ∀ a ∈ L, (Lit.int .i64 a).wf = true
  be : Below w0.heap.size w0 w
theorem Dd.start (w : World) : Dd w w [] (.slice none 0 0) 0 :=
  ⟨⟨rfl, .inl ⟨rfl, rfl⟩⟩, Nat.le_refl _, List.nodup_nil, fun a h => (by cases h), Below.refl _ _⟩
theorem Dd.next {w0 w : World} {L : List Int} {v : Value} {i : Nat} (d : Dd w0 w L v i) : Dd w0 w L v (i + 1) := ⟨d.row, by have := d.len; omega, d.nd, d.wf, d.be⟩
theorem Dd.snoc {w0 w w1 : World} {L : List Int} {v v' : Value} {i : Nat} {a : Int} (d : Dd w0 w L v i) (ha : ¬ a ∈ L) (hw : (Lit.int .i64 a).wf = true) {o : Obj}
    (hown : w1.ownsRow w0.heap.size 2 1 v' (L.length + 1) (L.map (Value.int .i64) ++ [a].map (Value.int .i64))) (hg : (w.alloc o).grownBy w1 v.ownBlock) : Dd w0 w1 (L ++ [a]) v' (i + 1) := by
  have hl := d.len
  have hs := d.be.size
  refine ⟨?_, by simp; exact hl, ?_, ?_, ?_⟩
  · have e : (L ++ [a]).length = L.length + 1 := by simp
    rw [e, List.map_append]; exact hown
  · rw [List.nodup_append]
    exact ⟨d.nd, by simp, fun x hx y hy => by simp at hy; subst hy; intro e; subst e; exact ha hx⟩
  · intro x hx
    rw [List.mem_append] at hx
    rcases hx with h | h
    · exact d.wf x h
    · simp at h; subst h; exact hw
  · exact (d.be.alloc hs o).grown hg (by simp; omega) (fun k hk => (World.ownsRow.lt d.row k hk).1)
/-- The slice, taken apart. -/
theorem Dd.slice {w0 w : World} {L : List Int} {v : Value} {i : Nat} (d : Dd w0 w L v i) : ∃ ua ucap, v = .slice ua L.length ucap ∧ (∀ ub, ua = some ⟨ub, 0, none⟩ → ub < w.heap.size) ∧
    ∀ j, j < L.length → ∃ ub, ua = some ⟨ub, 0, none⟩ ∧ ub < w.heap.size ∧ w.cell? ⟨ub, j, none⟩ = some (.int .i64 (L.getD j 0)) := by
  have hc := d.row
  rcases d.row.2 with ⟨hv, h0⟩ | ⟨g, cap, cur, hv, _, hg, _⟩
  · exact ⟨none, 0, by rw [hv, h0], fun ub h => (by cases h), fun j hj => (by omega)⟩
  · refine ⟨some ⟨g, 0, none⟩, cap, hv, fun ub h => ?_, fun j hj => ⟨g, rfl, lt_of_block hg, ?_⟩⟩
    · injection h with h; injection h with h; subst h; exact lt_of_block hg
    · have := World.ownsRow.cells hc (g := g) (by rw [hv]; rfl) j (.int .i64 (L.getD j 0)) (by rw [List.getElem?_map, List.getD_eq_getElem?_getD, List.getElem?_eq_getElem hj]; rfl)
      rwa [Addr.add_lit, Nat.zero_add] at this
theorem Dd.inj {w0 w : World} {L : List Int} {v : Value} {i : Nat} (d : Dd w0 w L v i) : ∀ a b, a < L.length → b < L.length → L.getD a 0 = L.getD b 0 → a = b := by
  intro a b ha hb h
  rw [List.getD_eq_getElem?_getD, List.getD_eq_getElem?_getD, List.getElem?_eq_getElem ha, List.getElem?_eq_getElem hb] at h
  exact (List.getElem_inj d.nd).mp h
theorem Dd.wfu {w0 w : World} {L : List Int} {v : Value} {i : Nat} (d : Dd w0 w L v i) : ∀ j, j < L.length → (Lit.int .i64 (L.getD j 0)).wf = true := by
  intro j hj
  refine d.wf _ ?_
  rw [List.getD_eq_getElem?_getD, List.getElem?_eq_getElem hj]
  exact List.getElem_mem hj
theorem not_mem_of {L : List Int} {a : Int} (h : ∀ j, j < L.length → L.getD j 0 ≠ a) : ¬ a ∈ L := by
  intro hm
  obtain ⟨j, hj, e⟩ := List.getElem_of_mem hm
  refine h j hj ?_
  rw [List.getD_eq_getElem?_getD, List.getElem?_eq_getElem hj]; exact e
theorem mem_of {L : List Int} {a : Int} {j : Nat} (hj : j < L.length) (h : L.getD j 0 = a) : a ∈ L := by
  rw [List.getD_eq_getElem?_getD, List.getElem?_eq_getElem hj] at h
  rw [← h]; exact List.getElem_mem hj
end Go.Proofs.Ybulkdjlc.C
