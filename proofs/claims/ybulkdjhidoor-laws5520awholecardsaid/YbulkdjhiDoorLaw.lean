import Derived.Test.YbulkdjhiDoorKbps
import Derived.WalkKit
import Derived.WalkSpells
import Derived.BigQuiet
import Derived.Deep.QuietTactic
namespace Go.Proofs.YbulkdjhiDoor
open Go.RowKit
set_option linter.unusedVariables false
theorem rate_any (g c : Int) (w : World) (hg : g = 0 ∨ g = 1 ∨ g = 2) (h0 : 0 ≤ c) (h1 : c ≤ 255) :
    Calls Ybad.prog 6 #[.int .i64 g, .int .u8 c] w fun e w' => e = .returned (.tuple #[.int .u64 ((look g c).getD 0), .bool (look g c).isSome]) ∧ w' = w := by
  rcases hg with rfl | rfl | rfl
  · exact rate_0 c w h0 h1
  · exact rate_1 c w h0 h1
  · exact rate_2 c w h0 h1

theorem law_big (xA : Bool) (a : Option Addr) (len cap : Nat) (w : World) (h : (1048576 : Int) < (len : Int)) :
    Calls Ybad.prog 3 #[.bool xA, .slice a len cap] w fun e w' => e = .returned (.bool true) ∧ Below w.heap.size w w' := by
  go_enter Ybad.func3, Ybad.ntmps3
  go_wp2
  go_ret
  exact ⟨rfl, Below.refl _ _⟩
theorem law_zero (xA : Bool) (a : Option Addr) (cap : Nat) (w : World) :
    Calls Ybad.prog 3 #[.bool xA, .slice a 0 cap] w fun e w' => e = .returned (.bool true) ∧ Below w.heap.size w w' := by
  go_enter Ybad.func3, Ybad.ntmps3
  go_wp2
  go_ret
  exact ⟨rfl, Below.refl _ _⟩

/-- What the law's walk is handed of the memory: the table's block, the codes' cells. -/
structure Mem (w : World) (t : TypeId) (fr : Nat × Nat) (b off len : Nat) (zs : List Int) : Prop where
  tab : w.heap[0]? = some (.cells cellsRR t fr)
  cells : ∀ j, j < len → w.cell? ⟨b, off + j, none⟩ = some (.int .u8 (zs.getD j 0))

theorem Mem.below {w w' : World} {t : TypeId} {fr : Nat × Nat} {b off len : Nat} {zs : List Int} (h : Mem w t fr b off len zs) (h0 : 0 < len) (hB : Below w.heap.size w w') : Mem w' t fr b off len zs :=
  ⟨(hB.block 0 (lt_of_block h.tab)).trans h.tab, fun j hj => (hB.cell (show b < w.heap.size from block_lt_of_cell (h.cells 0 h0))).trans (h.cells j hj)⟩

set_option maxHeartbeats 800000 in
theorem law3A1 (xA : Bool) (b off len cap : Nat) (zs : List Int) (x e b0 : Int) (w : World) (t : TypeId) (fr : Nat × Nat) (H : Hid (Mem w t fr b off len zs)) (h3 : 2 < len) (hm : len ≤ 1048576) (hz : len ≤ zs.length)
    (hx2 : Hid (zs.getD 2 0 = x)) (he2 : Hid (zs.getD 1 0 = e)) (hb2 : Hid (zs.getD 0 0 = b0))
    (bx : 0 ≤ x ∧ x ≤ 255) (be : 0 ≤ e ∧ e ≤ 255) (bb : 0 ≤ b0 ∧ b0 ≤ 255)
    (q1 : x = 0) (t2 : (e != 0) = true) :
    Calls Ybad.prog 3 #[.bool xA, .slice (some ⟨b, off, none⟩) len cap] w fun e w' => e = .returned (.bool true) ∧ Below w.heap.size w w' := by
  have hbl : b < w.heap.size := block_lt_of_cell (H.out.cells 0 (by omega))
  have l1 := look_bd 1 e (by simp) be.1 be.2
  have l0 := look_bd 0 b0 (by simp) bb.1 bb.2
  obtain ⟨hV, hO⟩ := leafA1 (xA := xA) (b0 := b0) q1 t2
  subst q1
  go_enter Ybad.func3, Ybad.ntmps3
  go_wp2_with fail
  refine (clone_any b off len cap zs _ (by omega) hm hz H.out.cells).mono ?_
  rintro en w1 ⟨g, cap', rfl, hk1, hg1, hB1⟩
  have M1 : Hid (Mem w1 t fr b off len zs) := H.out.below (by omega) hB1
  have HK1 : Hid (∀ j, j < len → w1.cell? ⟨g, j, none⟩ = some (.int .u8 (zs.getD j 0))) := hk1
  clear hk1
  go_wp2_with fail
  have hB1' : Below w1.heap.size w1 (w1.alloc (.cells #[.slice none 0 0, .bool xA] 26)) := (Below.refl _ _).alloc (Nat.le_refl _) _
  have M1' := M1.out.below (by omega) hB1'
  refine (kb_3 xA b off len cap (zs.getD 2 0) (zs.getD 1 0) (zs.getD 0 0) _ t fr M1'.tab h3 (M1'.cells 2 (by omega)) (M1'.cells 1 (by omega)) (M1'.cells 0 (by omega)) (hx2.out.symm ▸ bx) (he2.out.symm ▸ be) (hb2.out.symm ▸ bb)).mono ?_
  rintro en w2 ⟨rfl, hB2⟩
  rw [hx2.out, he2.out, hb2.out, hV, hO]
  have M2 : Hid (Mem w2 t fr b off len zs) := M1'.below (by omega) hB2
  have hk2 : Hid (∀ j, j < len → w2.cell? ⟨g, 0 + j, none⟩ = some (.int .u8 (zs.getD j 0))) := fun j hj => by
    rw [Nat.zero_add]
    exact (hB2.cell (show g < (w1.alloc _).heap.size by simp; omega)).trans ((hB1'.cell (show g < w1.heap.size from hg1)).trans (HK1.out j hj))
  have hB : Below w.heap.size w w2 := hB1.trans ((hB1'.mono hB1.size).trans (hB2.mono (by have := hB1.size; simp; omega)))
  have c0 := M2.out.cells 0 (by omega)
  have c1 := M2.out.cells 1 (by omega)
  have c2 := M2.out.cells 2 (by omega)
  rw [hb2.out, Nat.add_zero] at c0
  rw [he2.out] at c1
  rw [hx2.out] at c2
  clear hV hO M1' hB1' HK1 M1 hB1 hB2
  go_wp2_with (first | (go_at_call 6; refine (rate_any _ _ _ (by simp) (by omega) (by omega)).mono ?_; rintro en w3 ⟨rfl, rfl⟩) | (go_at_call 7; refine (equal_any b off cap g 0 cap' len zs _ hm M2.out.cells hk2.out).mono ?_; rintro en w4 ⟨rfl, hn⟩))
  go_ret
  obtain ⟨n, rfl⟩ := hn
  exact ⟨rfl, hB.trans ⟨rfl, rfl, rfl, Nat.le_refl _, fun _ _ => rfl⟩⟩

set_option maxHeartbeats 800000 in
theorem law3A2 (xA : Bool) (b off len cap : Nat) (zs : List Int) (x e b0 : Int) (w : World) (t : TypeId) (fr : Nat × Nat) (H : Hid (Mem w t fr b off len zs)) (h3 : 2 < len) (hm : len ≤ 1048576) (hz : len ≤ zs.length)
    (hx2 : Hid (zs.getD 2 0 = x)) (he2 : Hid (zs.getD 1 0 = e)) (hb2 : Hid (zs.getD 0 0 = b0))
    (bx : 0 ≤ x ∧ x ≤ 255) (be : 0 ≤ e ∧ e ≤ 255) (bb : 0 ≤ b0 ∧ b0 ≤ 255)
    (q1 : x = 0) (q2 : e = 0) (q3 : b0 = 255) :
    Calls Ybad.prog 3 #[.bool xA, .slice (some ⟨b, off, none⟩) len cap] w fun e w' => e = .returned (.bool true) ∧ Below w.heap.size w w' := by
  have hbl : b < w.heap.size := block_lt_of_cell (H.out.cells 0 (by omega))
  have l1 := look_bd 1 e (by simp) be.1 be.2
  have l0 := look_bd 0 b0 (by simp) bb.1 bb.2
  obtain ⟨hV, hO⟩ := leafA2 (xA := xA) (b0 := b0) (e := e) q1 (by simp [q2]) (by simp [q3])
  subst q1; subst q2; subst q3
  go_enter Ybad.func3, Ybad.ntmps3
  go_wp2_with fail
  refine (clone_any b off len cap zs _ (by omega) hm hz H.out.cells).mono ?_
  rintro en w1 ⟨g, cap', rfl, hk1, hg1, hB1⟩
  have M1 : Hid (Mem w1 t fr b off len zs) := H.out.below (by omega) hB1
  have HK1 : Hid (∀ j, j < len → w1.cell? ⟨g, j, none⟩ = some (.int .u8 (zs.getD j 0))) := hk1
  clear hk1
  go_wp2_with fail
  have hB1' : Below w1.heap.size w1 (w1.alloc (.cells #[.slice none 0 0, .bool xA] 26)) := (Below.refl _ _).alloc (Nat.le_refl _) _
  have M1' := M1.out.below (by omega) hB1'
  refine (kb_3 xA b off len cap (zs.getD 2 0) (zs.getD 1 0) (zs.getD 0 0) _ t fr M1'.tab h3 (M1'.cells 2 (by omega)) (M1'.cells 1 (by omega)) (M1'.cells 0 (by omega)) (hx2.out.symm ▸ bx) (he2.out.symm ▸ be) (hb2.out.symm ▸ bb)).mono ?_
  rintro en w2 ⟨rfl, hB2⟩
  rw [hx2.out, he2.out, hb2.out, hV, hO]
  have M2 : Hid (Mem w2 t fr b off len zs) := M1'.below (by omega) hB2
  have hk2 : Hid (∀ j, j < len → w2.cell? ⟨g, 0 + j, none⟩ = some (.int .u8 (zs.getD j 0))) := fun j hj => by
    rw [Nat.zero_add]
    exact (hB2.cell (show g < (w1.alloc _).heap.size by simp; omega)).trans ((hB1'.cell (show g < w1.heap.size from hg1)).trans (HK1.out j hj))
  have hB : Below w.heap.size w w2 := hB1.trans ((hB1'.mono hB1.size).trans (hB2.mono (by have := hB1.size; simp; omega)))
  have c0 := M2.out.cells 0 (by omega)
  have c1 := M2.out.cells 1 (by omega)
  have c2 := M2.out.cells 2 (by omega)
  rw [hb2.out, Nat.add_zero] at c0
  rw [he2.out] at c1
  rw [hx2.out] at c2
  clear hV hO M1' hB1' HK1 M1 hB1 hB2
  go_wp2_with (first | (go_at_call 6; refine (rate_any _ _ _ (by simp) (by omega) (by omega)).mono ?_; rintro en w3 ⟨rfl, rfl⟩) | (go_at_call 7; refine (equal_any b off cap g 0 cap' len zs _ hm M2.out.cells hk2.out).mono ?_; rintro en w4 ⟨rfl, hn⟩))
  go_ret
  obtain ⟨n, rfl⟩ := hn
  exact ⟨rfl, hB.trans ⟨rfl, rfl, rfl, Nat.le_refl _, fun _ _ => rfl⟩⟩

set_option maxHeartbeats 800000 in
theorem law3A3 (xA : Bool) (b off len cap : Nat) (zs : List Int) (x e b0 : Int) (w : World) (t : TypeId) (fr : Nat × Nat) (H : Hid (Mem w t fr b off len zs)) (h3 : 2 < len) (hm : len ≤ 1048576) (hz : len ≤ zs.length)
    (hx2 : Hid (zs.getD 2 0 = x)) (he2 : Hid (zs.getD 1 0 = e)) (hb2 : Hid (zs.getD 0 0 = b0))
    (bx : 0 ≤ x ∧ x ≤ 255) (be : 0 ≤ e ∧ e ≤ 255) (bb : 0 ≤ b0 ∧ b0 ≤ 255)
    (q1 : x = 0) (q2 : e = 0) (t3 : (b0 == 255) = false) :
    Calls Ybad.prog 3 #[.bool xA, .slice (some ⟨b, off, none⟩) len cap] w fun e w' => e = .returned (.bool true) ∧ Below w.heap.size w w' := by
  have hbl : b < w.heap.size := block_lt_of_cell (H.out.cells 0 (by omega))
  have l1 := look_bd 1 e (by simp) be.1 be.2
  have l0 := look_bd 0 b0 (by simp) bb.1 bb.2
  obtain ⟨hV, hO⟩ := leafA3 (xA := xA) (b0 := b0) (e := e) q1 (by simp [q2]) t3
  subst q1; subst q2
  go_enter Ybad.func3, Ybad.ntmps3
  go_wp2_with fail
  refine (clone_any b off len cap zs _ (by omega) hm hz H.out.cells).mono ?_
  rintro en w1 ⟨g, cap', rfl, hk1, hg1, hB1⟩
  have M1 : Hid (Mem w1 t fr b off len zs) := H.out.below (by omega) hB1
  have HK1 : Hid (∀ j, j < len → w1.cell? ⟨g, j, none⟩ = some (.int .u8 (zs.getD j 0))) := hk1
  clear hk1
  go_wp2_with fail
  have hB1' : Below w1.heap.size w1 (w1.alloc (.cells #[.slice none 0 0, .bool xA] 26)) := (Below.refl _ _).alloc (Nat.le_refl _) _
  have M1' := M1.out.below (by omega) hB1'
  refine (kb_3 xA b off len cap (zs.getD 2 0) (zs.getD 1 0) (zs.getD 0 0) _ t fr M1'.tab h3 (M1'.cells 2 (by omega)) (M1'.cells 1 (by omega)) (M1'.cells 0 (by omega)) (hx2.out.symm ▸ bx) (he2.out.symm ▸ be) (hb2.out.symm ▸ bb)).mono ?_
  rintro en w2 ⟨rfl, hB2⟩
  rw [hx2.out, he2.out, hb2.out, hV, hO]
  have M2 : Hid (Mem w2 t fr b off len zs) := M1'.below (by omega) hB2
  have hk2 : Hid (∀ j, j < len → w2.cell? ⟨g, 0 + j, none⟩ = some (.int .u8 (zs.getD j 0))) := fun j hj => by
    rw [Nat.zero_add]
    exact (hB2.cell (show g < (w1.alloc _).heap.size by simp; omega)).trans ((hB1'.cell (show g < w1.heap.size from hg1)).trans (HK1.out j hj))
  have hB : Below w.heap.size w w2 := hB1.trans ((hB1'.mono hB1.size).trans (hB2.mono (by have := hB1.size; simp; omega)))
  have c0 := M2.out.cells 0 (by omega)
  have c1 := M2.out.cells 1 (by omega)
  have c2 := M2.out.cells 2 (by omega)
  rw [hb2.out, Nat.add_zero] at c0
  rw [he2.out] at c1
  rw [hx2.out] at c2
  clear hV hO M1' hB1' HK1 M1 hB1 hB2
  go_wp2_with (first | (go_at_call 6; refine (rate_any _ _ _ (by simp) (by omega) (by omega)).mono ?_; rintro en w3 ⟨rfl, rfl⟩) | (go_at_call 7; refine (equal_any b off cap g 0 cap' len zs _ hm M2.out.cells hk2.out).mono ?_; rintro en w4 ⟨rfl, hn⟩))
  go_ret
  obtain ⟨n, rfl⟩ := hn
  exact ⟨rfl, hB.trans ⟨rfl, rfl, rfl, Nat.le_refl _, fun _ _ => rfl⟩⟩

set_option maxHeartbeats 800000 in
theorem law3B1 (xA : Bool) (b off len cap : Nat) (zs : List Int) (x e b0 : Int) (w : World) (t : TypeId) (fr : Nat × Nat) (H : Hid (Mem w t fr b off len zs)) (h3 : 2 < len) (hm : len ≤ 1048576) (hz : len ≤ zs.length)
    (hx2 : Hid (zs.getD 2 0 = x)) (he2 : Hid (zs.getD 1 0 = e)) (hb2 : Hid (zs.getD 0 0 = b0))
    (bx : 0 ≤ x ∧ x ≤ 255) (be : 0 ≤ e ∧ e ≤ 255) (bb : 0 ≤ b0 ∧ b0 ≤ 255)
    (q0 : xA = false) (t1 : (x != 0) = true) (q4 : 246 < x) :
    Calls Ybad.prog 3 #[.bool xA, .slice (some ⟨b, off, none⟩) len cap] w fun e w' => e = .returned (.bool true) ∧ Below w.heap.size w w' := by
  have hbl : b < w.heap.size := block_lt_of_cell (H.out.cells 0 (by omega))
  have l1 := look_bd 1 e (by simp) be.1 be.2
  have l0 := look_bd 0 b0 (by simp) bb.1 bb.2
  obtain ⟨hV, hO⟩ := leafB1 (xA := xA) (b0 := b0) (e := e) ⟨t1, by simp [q0]⟩ q4
  subst q0
  go_enter Ybad.func3, Ybad.ntmps3
  go_wp2_with fail
  refine (clone_any b off len cap zs _ (by omega) hm hz H.out.cells).mono ?_
  rintro en w1 ⟨g, cap', rfl, hk1, hg1, hB1⟩
  have M1 : Hid (Mem w1 t fr b off len zs) := H.out.below (by omega) hB1
  have HK1 : Hid (∀ j, j < len → w1.cell? ⟨g, j, none⟩ = some (.int .u8 (zs.getD j 0))) := hk1
  clear hk1
  go_wp2_with fail
  have hB1' : Below w1.heap.size w1 (w1.alloc (.cells #[.slice none 0 0, .bool false] 26)) := (Below.refl _ _).alloc (Nat.le_refl _) _
  have M1' := M1.out.below (by omega) hB1'
  refine (kb_3 false b off len cap (zs.getD 2 0) (zs.getD 1 0) (zs.getD 0 0) _ t fr M1'.tab h3 (M1'.cells 2 (by omega)) (M1'.cells 1 (by omega)) (M1'.cells 0 (by omega)) (hx2.out.symm ▸ bx) (he2.out.symm ▸ be) (hb2.out.symm ▸ bb)).mono ?_
  rintro en w2 ⟨rfl, hB2⟩
  rw [hx2.out, he2.out, hb2.out, hV, hO]
  have M2 : Hid (Mem w2 t fr b off len zs) := M1'.below (by omega) hB2
  have hk2 : Hid (∀ j, j < len → w2.cell? ⟨g, 0 + j, none⟩ = some (.int .u8 (zs.getD j 0))) := fun j hj => by
    rw [Nat.zero_add]
    exact (hB2.cell (show g < (w1.alloc _).heap.size by simp; omega)).trans ((hB1'.cell (show g < w1.heap.size from hg1)).trans (HK1.out j hj))
  have hB : Below w.heap.size w w2 := hB1.trans ((hB1'.mono hB1.size).trans (hB2.mono (by have := hB1.size; simp; omega)))
  have c0 := M2.out.cells 0 (by omega)
  have c1 := M2.out.cells 1 (by omega)
  have c2 := M2.out.cells 2 (by omega)
  rw [hb2.out, Nat.add_zero] at c0
  rw [he2.out] at c1
  rw [hx2.out] at c2
  clear hV hO M1' hB1' HK1 M1 hB1 hB2
  go_wp2_with (first | (go_at_call 6; refine (rate_any _ _ _ (by simp) (by omega) (by omega)).mono ?_; rintro en w3 ⟨rfl, rfl⟩) | (go_at_call 7; refine (equal_any b off cap g 0 cap' len zs _ hm M2.out.cells hk2.out).mono ?_; rintro en w4 ⟨rfl, hn⟩))
  go_ret
  obtain ⟨n, rfl⟩ := hn
  exact ⟨rfl, hB.trans ⟨rfl, rfl, rfl, Nat.le_refl _, fun _ _ => rfl⟩⟩

set_option maxHeartbeats 800000 in
theorem law3B2 (xA : Bool) (b off len cap : Nat) (zs : List Int) (x e b0 : Int) (w : World) (t : TypeId) (fr : Nat × Nat) (H : Hid (Mem w t fr b off len zs)) (h3 : 2 < len) (hm : len ≤ 1048576) (hz : len ≤ zs.length)
    (hx2 : Hid (zs.getD 2 0 = x)) (he2 : Hid (zs.getD 1 0 = e)) (hb2 : Hid (zs.getD 0 0 = b0))
    (bx : 0 ≤ x ∧ x ≤ 255) (be : 0 ≤ e ∧ e ≤ 255) (bb : 0 ≤ b0 ∧ b0 ≤ 255)
    (q0 : xA = false) (t1 : (x != 0) = true) (q4 : x ≤ 246) :
    Calls Ybad.prog 3 #[.bool xA, .slice (some ⟨b, off, none⟩) len cap] w fun e w' => e = .returned (.bool true) ∧ Below w.heap.size w w' := by
  have hbl : b < w.heap.size := block_lt_of_cell (H.out.cells 0 (by omega))
  have l1 := look_bd 1 e (by simp) be.1 be.2
  have l0 := look_bd 0 b0 (by simp) bb.1 bb.2
  obtain ⟨hV, hO⟩ := leafB2 (xA := xA) (b0 := b0) (e := e) ⟨t1, by simp [q0]⟩ q4
  subst q0
  go_enter Ybad.func3, Ybad.ntmps3
  go_wp2_with fail
  refine (clone_any b off len cap zs _ (by omega) hm hz H.out.cells).mono ?_
  rintro en w1 ⟨g, cap', rfl, hk1, hg1, hB1⟩
  have M1 : Hid (Mem w1 t fr b off len zs) := H.out.below (by omega) hB1
  have HK1 : Hid (∀ j, j < len → w1.cell? ⟨g, j, none⟩ = some (.int .u8 (zs.getD j 0))) := hk1
  clear hk1
  go_wp2_with fail
  have hB1' : Below w1.heap.size w1 (w1.alloc (.cells #[.slice none 0 0, .bool false] 26)) := (Below.refl _ _).alloc (Nat.le_refl _) _
  have M1' := M1.out.below (by omega) hB1'
  refine (kb_3 false b off len cap (zs.getD 2 0) (zs.getD 1 0) (zs.getD 0 0) _ t fr M1'.tab h3 (M1'.cells 2 (by omega)) (M1'.cells 1 (by omega)) (M1'.cells 0 (by omega)) (hx2.out.symm ▸ bx) (he2.out.symm ▸ be) (hb2.out.symm ▸ bb)).mono ?_
  rintro en w2 ⟨rfl, hB2⟩
  rw [hx2.out, he2.out, hb2.out, hV, hO]
  have M2 : Hid (Mem w2 t fr b off len zs) := M1'.below (by omega) hB2
  have hk2 : Hid (∀ j, j < len → w2.cell? ⟨g, 0 + j, none⟩ = some (.int .u8 (zs.getD j 0))) := fun j hj => by
    rw [Nat.zero_add]
    exact (hB2.cell (show g < (w1.alloc _).heap.size by simp; omega)).trans ((hB1'.cell (show g < w1.heap.size from hg1)).trans (HK1.out j hj))
  have hB : Below w.heap.size w w2 := hB1.trans ((hB1'.mono hB1.size).trans (hB2.mono (by have := hB1.size; simp; omega)))
  have c0 := M2.out.cells 0 (by omega)
  have c1 := M2.out.cells 1 (by omega)
  have c2 := M2.out.cells 2 (by omega)
  rw [hb2.out, Nat.add_zero] at c0
  rw [he2.out] at c1
  rw [hx2.out] at c2
  clear hV hO M1' hB1' HK1 M1 hB1 hB2
  go_wp2_with (first | (go_at_call 6; refine (rate_any _ _ _ (by simp) (by omega) (by omega)).mono ?_; rintro en w3 ⟨rfl, rfl⟩) | (go_at_call 7; refine (equal_any b off cap g 0 cap' len zs _ hm M2.out.cells hk2.out).mono ?_; rintro en w4 ⟨rfl, hn⟩))
  go_ret
  obtain ⟨n, rfl⟩ := hn
  exact ⟨rfl, hB.trans ⟨rfl, rfl, rfl, Nat.le_refl _, fun _ _ => rfl⟩⟩

set_option maxHeartbeats 800000 in
theorem law3C01 (xA : Bool) (b off len cap : Nat) (zs : List Int) (x e b0 : Int) (w : World) (t : TypeId) (fr : Nat × Nat) (H : Hid (Mem w t fr b off len zs)) (h3 : 2 < len) (hm : len ≤ 1048576) (hz : len ≤ zs.length)
    (hx2 : Hid (zs.getD 2 0 = x)) (he2 : Hid (zs.getD 1 0 = e)) (hb2 : Hid (zs.getD 0 0 = b0))
    (bx : 0 ≤ x ∧ x ≤ 255) (be : 0 ≤ e ∧ e ≤ 255) (bb : 0 ≤ b0 ∧ b0 ≤ 255)
    (q0 : xA = true) (q1 : x = 255) (t2 : (e != 0) = true) :
    Calls Ybad.prog 3 #[.bool xA, .slice (some ⟨b, off, none⟩) len cap] w fun e w' => e = .returned (.bool true) ∧ Below w.heap.size w w' := by
  have hbl : b < w.heap.size := block_lt_of_cell (H.out.cells 0 (by omega))
  have l1 := look_bd 1 e (by simp) be.1 be.2
  have l0 := look_bd 0 b0 (by simp) bb.1 bb.2
  obtain ⟨hV, hO⟩ := leafC0 (xA := xA) (b0 := b0) (e := e) (x := x) (.inr (by simp [q0])) (by omega)
  subst q0; subst q1
  go_enter Ybad.func3, Ybad.ntmps3
  go_wp2_with fail
  refine (clone_any b off len cap zs _ (by omega) hm hz H.out.cells).mono ?_
  rintro en w1 ⟨g, cap', rfl, hk1, hg1, hB1⟩
  have M1 : Hid (Mem w1 t fr b off len zs) := H.out.below (by omega) hB1
  have HK1 : Hid (∀ j, j < len → w1.cell? ⟨g, j, none⟩ = some (.int .u8 (zs.getD j 0))) := hk1
  clear hk1
  go_wp2_with fail
  have hB1' : Below w1.heap.size w1 (w1.alloc (.cells #[.slice none 0 0, .bool true] 26)) := (Below.refl _ _).alloc (Nat.le_refl _) _
  have M1' := M1.out.below (by omega) hB1'
  refine (kb_3 true b off len cap (zs.getD 2 0) (zs.getD 1 0) (zs.getD 0 0) _ t fr M1'.tab h3 (M1'.cells 2 (by omega)) (M1'.cells 1 (by omega)) (M1'.cells 0 (by omega)) (hx2.out.symm ▸ bx) (he2.out.symm ▸ be) (hb2.out.symm ▸ bb)).mono ?_
  rintro en w2 ⟨rfl, hB2⟩
  rw [hx2.out, he2.out, hb2.out, hV, hO]
  have M2 : Hid (Mem w2 t fr b off len zs) := M1'.below (by omega) hB2
  have hk2 : Hid (∀ j, j < len → w2.cell? ⟨g, 0 + j, none⟩ = some (.int .u8 (zs.getD j 0))) := fun j hj => by
    rw [Nat.zero_add]
    exact (hB2.cell (show g < (w1.alloc _).heap.size by simp; omega)).trans ((hB1'.cell (show g < w1.heap.size from hg1)).trans (HK1.out j hj))
  have hB : Below w.heap.size w w2 := hB1.trans ((hB1'.mono hB1.size).trans (hB2.mono (by have := hB1.size; simp; omega)))
  have c0 := M2.out.cells 0 (by omega)
  have c1 := M2.out.cells 1 (by omega)
  have c2 := M2.out.cells 2 (by omega)
  rw [hb2.out, Nat.add_zero] at c0
  rw [he2.out] at c1
  rw [hx2.out] at c2
  clear hV hO M1' hB1' HK1 M1 hB1 hB2
  go_wp2_with (first | (go_at_call 6; refine (rate_any _ _ _ (by simp) (by omega) (by omega)).mono ?_; rintro en w3 ⟨rfl, rfl⟩) | (go_at_call 7; refine (equal_any b off cap g 0 cap' len zs _ hm M2.out.cells hk2.out).mono ?_; rintro en w4 ⟨rfl, hn⟩))
  go_ret
  obtain ⟨n, rfl⟩ := hn
  exact ⟨rfl, hB.trans ⟨rfl, rfl, rfl, Nat.le_refl _, fun _ _ => rfl⟩⟩

set_option maxHeartbeats 800000 in
theorem law3C02 (xA : Bool) (b off len cap : Nat) (zs : List Int) (x e b0 : Int) (w : World) (t : TypeId) (fr : Nat × Nat) (H : Hid (Mem w t fr b off len zs)) (h3 : 2 < len) (hm : len ≤ 1048576) (hz : len ≤ zs.length)
    (hx2 : Hid (zs.getD 2 0 = x)) (he2 : Hid (zs.getD 1 0 = e)) (hb2 : Hid (zs.getD 0 0 = b0))
    (bx : 0 ≤ x ∧ x ≤ 255) (be : 0 ≤ e ∧ e ≤ 255) (bb : 0 ≤ b0 ∧ b0 ≤ 255)
    (q0 : xA = true) (q1 : x = 255) (q2 : e = 0) (q3 : b0 = 255) :
    Calls Ybad.prog 3 #[.bool xA, .slice (some ⟨b, off, none⟩) len cap] w fun e w' => e = .returned (.bool true) ∧ Below w.heap.size w w' := by
  have hbl : b < w.heap.size := block_lt_of_cell (H.out.cells 0 (by omega))
  have l1 := look_bd 1 e (by simp) be.1 be.2
  have l0 := look_bd 0 b0 (by simp) bb.1 bb.2
  obtain ⟨hV, hO⟩ := leafC0 (xA := xA) (b0 := b0) (e := e) (x := x) (.inr (by simp [q0])) (by omega)
  subst q0; subst q1; subst q2; subst q3
  go_enter Ybad.func3, Ybad.ntmps3
  go_wp2_with fail
  refine (clone_any b off len cap zs _ (by omega) hm hz H.out.cells).mono ?_
  rintro en w1 ⟨g, cap', rfl, hk1, hg1, hB1⟩
  have M1 : Hid (Mem w1 t fr b off len zs) := H.out.below (by omega) hB1
  have HK1 : Hid (∀ j, j < len → w1.cell? ⟨g, j, none⟩ = some (.int .u8 (zs.getD j 0))) := hk1
  clear hk1
  go_wp2_with fail
  have hB1' : Below w1.heap.size w1 (w1.alloc (.cells #[.slice none 0 0, .bool true] 26)) := (Below.refl _ _).alloc (Nat.le_refl _) _
  have M1' := M1.out.below (by omega) hB1'
  refine (kb_3 true b off len cap (zs.getD 2 0) (zs.getD 1 0) (zs.getD 0 0) _ t fr M1'.tab h3 (M1'.cells 2 (by omega)) (M1'.cells 1 (by omega)) (M1'.cells 0 (by omega)) (hx2.out.symm ▸ bx) (he2.out.symm ▸ be) (hb2.out.symm ▸ bb)).mono ?_
  rintro en w2 ⟨rfl, hB2⟩
  rw [hx2.out, he2.out, hb2.out, hV, hO]
  have M2 : Hid (Mem w2 t fr b off len zs) := M1'.below (by omega) hB2
  have hk2 : Hid (∀ j, j < len → w2.cell? ⟨g, 0 + j, none⟩ = some (.int .u8 (zs.getD j 0))) := fun j hj => by
    rw [Nat.zero_add]
    exact (hB2.cell (show g < (w1.alloc _).heap.size by simp; omega)).trans ((hB1'.cell (show g < w1.heap.size from hg1)).trans (HK1.out j hj))
  have hB : Below w.heap.size w w2 := hB1.trans ((hB1'.mono hB1.size).trans (hB2.mono (by have := hB1.size; simp; omega)))
  have c0 := M2.out.cells 0 (by omega)
  have c1 := M2.out.cells 1 (by omega)
  have c2 := M2.out.cells 2 (by omega)
  rw [hb2.out, Nat.add_zero] at c0
  rw [he2.out] at c1
  rw [hx2.out] at c2
  clear hV hO M1' hB1' HK1 M1 hB1 hB2
  go_wp2_with (first | (go_at_call 6; refine (rate_any _ _ _ (by simp) (by omega) (by omega)).mono ?_; rintro en w3 ⟨rfl, rfl⟩) | (go_at_call 7; refine (equal_any b off cap g 0 cap' len zs _ hm M2.out.cells hk2.out).mono ?_; rintro en w4 ⟨rfl, hn⟩))
  go_ret
  obtain ⟨n, rfl⟩ := hn
  exact ⟨rfl, hB.trans ⟨rfl, rfl, rfl, Nat.le_refl _, fun _ _ => rfl⟩⟩

set_option maxHeartbeats 800000 in
theorem law3C03 (xA : Bool) (b off len cap : Nat) (zs : List Int) (x e b0 : Int) (w : World) (t : TypeId) (fr : Nat × Nat) (H : Hid (Mem w t fr b off len zs)) (h3 : 2 < len) (hm : len ≤ 1048576) (hz : len ≤ zs.length)
    (hx2 : Hid (zs.getD 2 0 = x)) (he2 : Hid (zs.getD 1 0 = e)) (hb2 : Hid (zs.getD 0 0 = b0))
    (bx : 0 ≤ x ∧ x ≤ 255) (be : 0 ≤ e ∧ e ≤ 255) (bb : 0 ≤ b0 ∧ b0 ≤ 255)
    (q0 : xA = true) (q1 : x = 255) (q2 : e = 0) (t3 : (b0 == 255) = false) :
    Calls Ybad.prog 3 #[.bool xA, .slice (some ⟨b, off, none⟩) len cap] w fun e w' => e = .returned (.bool true) ∧ Below w.heap.size w w' := by
  have hbl : b < w.heap.size := block_lt_of_cell (H.out.cells 0 (by omega))
  have l1 := look_bd 1 e (by simp) be.1 be.2
  have l0 := look_bd 0 b0 (by simp) bb.1 bb.2
  obtain ⟨hV, hO⟩ := leafC0 (xA := xA) (b0 := b0) (e := e) (x := x) (.inr (by simp [q0])) (by omega)
  subst q0; subst q1; subst q2
  go_enter Ybad.func3, Ybad.ntmps3
  go_wp2_with fail
  refine (clone_any b off len cap zs _ (by omega) hm hz H.out.cells).mono ?_
  rintro en w1 ⟨g, cap', rfl, hk1, hg1, hB1⟩
  have M1 : Hid (Mem w1 t fr b off len zs) := H.out.below (by omega) hB1
  have HK1 : Hid (∀ j, j < len → w1.cell? ⟨g, j, none⟩ = some (.int .u8 (zs.getD j 0))) := hk1
  clear hk1
  go_wp2_with fail
  have hB1' : Below w1.heap.size w1 (w1.alloc (.cells #[.slice none 0 0, .bool true] 26)) := (Below.refl _ _).alloc (Nat.le_refl _) _
  have M1' := M1.out.below (by omega) hB1'
  refine (kb_3 true b off len cap (zs.getD 2 0) (zs.getD 1 0) (zs.getD 0 0) _ t fr M1'.tab h3 (M1'.cells 2 (by omega)) (M1'.cells 1 (by omega)) (M1'.cells 0 (by omega)) (hx2.out.symm ▸ bx) (he2.out.symm ▸ be) (hb2.out.symm ▸ bb)).mono ?_
  rintro en w2 ⟨rfl, hB2⟩
  rw [hx2.out, he2.out, hb2.out, hV, hO]
  have M2 : Hid (Mem w2 t fr b off len zs) := M1'.below (by omega) hB2
  have hk2 : Hid (∀ j, j < len → w2.cell? ⟨g, 0 + j, none⟩ = some (.int .u8 (zs.getD j 0))) := fun j hj => by
    rw [Nat.zero_add]
    exact (hB2.cell (show g < (w1.alloc _).heap.size by simp; omega)).trans ((hB1'.cell (show g < w1.heap.size from hg1)).trans (HK1.out j hj))
  have hB : Below w.heap.size w w2 := hB1.trans ((hB1'.mono hB1.size).trans (hB2.mono (by have := hB1.size; simp; omega)))
  have c0 := M2.out.cells 0 (by omega)
  have c1 := M2.out.cells 1 (by omega)
  have c2 := M2.out.cells 2 (by omega)
  rw [hb2.out, Nat.add_zero] at c0
  rw [he2.out] at c1
  rw [hx2.out] at c2
  clear hV hO M1' hB1' HK1 M1 hB1 hB2
  go_wp2_with (first | (go_at_call 6; refine (rate_any _ _ _ (by simp) (by omega) (by omega)).mono ?_; rintro en w3 ⟨rfl, rfl⟩) | (go_at_call 7; refine (equal_any b off cap g 0 cap' len zs _ hm M2.out.cells hk2.out).mono ?_; rintro en w4 ⟨rfl, hn⟩))
  go_ret
  obtain ⟨n, rfl⟩ := hn
  exact ⟨rfl, hB.trans ⟨rfl, rfl, rfl, Nat.le_refl _, fun _ _ => rfl⟩⟩

set_option maxHeartbeats 800000 in
theorem law3C1 (xA : Bool) (b off len cap : Nat) (zs : List Int) (x e b0 : Int) (w : World) (t : TypeId) (fr : Nat × Nat) (H : Hid (Mem w t fr b off len zs)) (h3 : 2 < len) (hm : len ≤ 1048576) (hz : len ≤ zs.length)
    (hx2 : Hid (zs.getD 2 0 = x)) (he2 : Hid (zs.getD 1 0 = e)) (hb2 : Hid (zs.getD 0 0 = b0))
    (bx : 0 ≤ x ∧ x ≤ 255) (be : 0 ≤ e ∧ e ≤ 255) (bb : 0 ≤ b0 ∧ b0 ≤ 255)
    (q0 : xA = true) (t1 : (x != 0) = true) (q4 : x ≤ 254) (t2 : (e != 0) = true) :
    Calls Ybad.prog 3 #[.bool xA, .slice (some ⟨b, off, none⟩) len cap] w fun e w' => e = .returned (.bool true) ∧ Below w.heap.size w w' := by
  have hbl : b < w.heap.size := block_lt_of_cell (H.out.cells 0 (by omega))
  have l1 := look_bd 1 e (by simp) be.1 be.2
  have l0 := look_bd 0 b0 (by simp) bb.1 bb.2
  obtain ⟨hV, hO⟩ := leafC1 (xA := xA) (b0 := b0) (e := e) (x := x) (.inr (by simp [q0])) q4 t2
  subst q0
  go_enter Ybad.func3, Ybad.ntmps3
  go_wp2_with fail
  refine (clone_any b off len cap zs _ (by omega) hm hz H.out.cells).mono ?_
  rintro en w1 ⟨g, cap', rfl, hk1, hg1, hB1⟩
  have M1 : Hid (Mem w1 t fr b off len zs) := H.out.below (by omega) hB1
  have HK1 : Hid (∀ j, j < len → w1.cell? ⟨g, j, none⟩ = some (.int .u8 (zs.getD j 0))) := hk1
  clear hk1
  go_wp2_with fail
  have hB1' : Below w1.heap.size w1 (w1.alloc (.cells #[.slice none 0 0, .bool true] 26)) := (Below.refl _ _).alloc (Nat.le_refl _) _
  have M1' := M1.out.below (by omega) hB1'
  refine (kb_3 true b off len cap (zs.getD 2 0) (zs.getD 1 0) (zs.getD 0 0) _ t fr M1'.tab h3 (M1'.cells 2 (by omega)) (M1'.cells 1 (by omega)) (M1'.cells 0 (by omega)) (hx2.out.symm ▸ bx) (he2.out.symm ▸ be) (hb2.out.symm ▸ bb)).mono ?_
  rintro en w2 ⟨rfl, hB2⟩
  rw [hx2.out, he2.out, hb2.out, hV, hO]
  have M2 : Hid (Mem w2 t fr b off len zs) := M1'.below (by omega) hB2
  have hk2 : Hid (∀ j, j < len → w2.cell? ⟨g, 0 + j, none⟩ = some (.int .u8 (zs.getD j 0))) := fun j hj => by
    rw [Nat.zero_add]
    exact (hB2.cell (show g < (w1.alloc _).heap.size by simp; omega)).trans ((hB1'.cell (show g < w1.heap.size from hg1)).trans (HK1.out j hj))
  have hB : Below w.heap.size w w2 := hB1.trans ((hB1'.mono hB1.size).trans (hB2.mono (by have := hB1.size; simp; omega)))
  have c0 := M2.out.cells 0 (by omega)
  have c1 := M2.out.cells 1 (by omega)
  have c2 := M2.out.cells 2 (by omega)
  rw [hb2.out, Nat.add_zero] at c0
  rw [he2.out] at c1
  rw [hx2.out] at c2
  clear hV hO M1' hB1' HK1 M1 hB1 hB2
  go_wp2_with (first | (go_at_call 6; refine (rate_any _ _ _ (by simp) (by omega) (by omega)).mono ?_; rintro en w3 ⟨rfl, rfl⟩) | (go_at_call 7; refine (equal_any b off cap g 0 cap' len zs _ hm M2.out.cells hk2.out).mono ?_; rintro en w4 ⟨rfl, hn⟩))
  go_ret
  obtain ⟨n, rfl⟩ := hn
  exact ⟨rfl, hB.trans ⟨rfl, rfl, rfl, Nat.le_refl _, fun _ _ => rfl⟩⟩

set_option maxHeartbeats 800000 in
theorem law3C2 (xA : Bool) (b off len cap : Nat) (zs : List Int) (x e b0 : Int) (w : World) (t : TypeId) (fr : Nat × Nat) (H : Hid (Mem w t fr b off len zs)) (h3 : 2 < len) (hm : len ≤ 1048576) (hz : len ≤ zs.length)
    (hx2 : Hid (zs.getD 2 0 = x)) (he2 : Hid (zs.getD 1 0 = e)) (hb2 : Hid (zs.getD 0 0 = b0))
    (bx : 0 ≤ x ∧ x ≤ 255) (be : 0 ≤ e ∧ e ≤ 255) (bb : 0 ≤ b0 ∧ b0 ≤ 255)
    (q0 : xA = true) (t1 : (x != 0) = true) (q4 : x ≤ 254) (q2 : e = 0) (q3 : b0 = 255) :
    Calls Ybad.prog 3 #[.bool xA, .slice (some ⟨b, off, none⟩) len cap] w fun e w' => e = .returned (.bool true) ∧ Below w.heap.size w w' := by
  have hbl : b < w.heap.size := block_lt_of_cell (H.out.cells 0 (by omega))
  have l1 := look_bd 1 e (by simp) be.1 be.2
  have l0 := look_bd 0 b0 (by simp) bb.1 bb.2
  obtain ⟨hV, hO⟩ := leafC2 (xA := xA) (b0 := b0) (e := e) (x := x) (.inr (by simp [q0])) q4 (by simp [q2]) (by simp [q3])
  subst q0; subst q2; subst q3
  go_enter Ybad.func3, Ybad.ntmps3
  go_wp2_with fail
  refine (clone_any b off len cap zs _ (by omega) hm hz H.out.cells).mono ?_
  rintro en w1 ⟨g, cap', rfl, hk1, hg1, hB1⟩
  have M1 : Hid (Mem w1 t fr b off len zs) := H.out.below (by omega) hB1
  have HK1 : Hid (∀ j, j < len → w1.cell? ⟨g, j, none⟩ = some (.int .u8 (zs.getD j 0))) := hk1
  clear hk1
  go_wp2_with fail
  have hB1' : Below w1.heap.size w1 (w1.alloc (.cells #[.slice none 0 0, .bool true] 26)) := (Below.refl _ _).alloc (Nat.le_refl _) _
  have M1' := M1.out.below (by omega) hB1'
  refine (kb_3 true b off len cap (zs.getD 2 0) (zs.getD 1 0) (zs.getD 0 0) _ t fr M1'.tab h3 (M1'.cells 2 (by omega)) (M1'.cells 1 (by omega)) (M1'.cells 0 (by omega)) (hx2.out.symm ▸ bx) (he2.out.symm ▸ be) (hb2.out.symm ▸ bb)).mono ?_
  rintro en w2 ⟨rfl, hB2⟩
  rw [hx2.out, he2.out, hb2.out, hV, hO]
  have M2 : Hid (Mem w2 t fr b off len zs) := M1'.below (by omega) hB2
  have hk2 : Hid (∀ j, j < len → w2.cell? ⟨g, 0 + j, none⟩ = some (.int .u8 (zs.getD j 0))) := fun j hj => by
    rw [Nat.zero_add]
    exact (hB2.cell (show g < (w1.alloc _).heap.size by simp; omega)).trans ((hB1'.cell (show g < w1.heap.size from hg1)).trans (HK1.out j hj))
  have hB : Below w.heap.size w w2 := hB1.trans ((hB1'.mono hB1.size).trans (hB2.mono (by have := hB1.size; simp; omega)))
  have c0 := M2.out.cells 0 (by omega)
  have c1 := M2.out.cells 1 (by omega)
  have c2 := M2.out.cells 2 (by omega)
  rw [hb2.out, Nat.add_zero] at c0
  rw [he2.out] at c1
  rw [hx2.out] at c2
  clear hV hO M1' hB1' HK1 M1 hB1 hB2
  go_wp2_with (first | (go_at_call 6; refine (rate_any _ _ _ (by simp) (by omega) (by omega)).mono ?_; rintro en w3 ⟨rfl, rfl⟩) | (go_at_call 7; refine (equal_any b off cap g 0 cap' len zs _ hm M2.out.cells hk2.out).mono ?_; rintro en w4 ⟨rfl, hn⟩))
  go_ret
  obtain ⟨n, rfl⟩ := hn
  exact ⟨rfl, hB.trans ⟨rfl, rfl, rfl, Nat.le_refl _, fun _ _ => rfl⟩⟩

set_option maxHeartbeats 800000 in
theorem law3C3 (xA : Bool) (b off len cap : Nat) (zs : List Int) (x e b0 : Int) (w : World) (t : TypeId) (fr : Nat × Nat) (H : Hid (Mem w t fr b off len zs)) (h3 : 2 < len) (hm : len ≤ 1048576) (hz : len ≤ zs.length)
    (hx2 : Hid (zs.getD 2 0 = x)) (he2 : Hid (zs.getD 1 0 = e)) (hb2 : Hid (zs.getD 0 0 = b0))
    (bx : 0 ≤ x ∧ x ≤ 255) (be : 0 ≤ e ∧ e ≤ 255) (bb : 0 ≤ b0 ∧ b0 ≤ 255)
    (q0 : xA = true) (t1 : (x != 0) = true) (q4 : x ≤ 254) (q2 : e = 0) (t3 : (b0 == 255) = false) :
    Calls Ybad.prog 3 #[.bool xA, .slice (some ⟨b, off, none⟩) len cap] w fun e w' => e = .returned (.bool true) ∧ Below w.heap.size w w' := by
  have hbl : b < w.heap.size := block_lt_of_cell (H.out.cells 0 (by omega))
  have l1 := look_bd 1 e (by simp) be.1 be.2
  have l0 := look_bd 0 b0 (by simp) bb.1 bb.2
  obtain ⟨hV, hO⟩ := leafC3 (xA := xA) (b0 := b0) (e := e) (x := x) (.inr (by simp [q0])) q4 (by simp [q2]) t3
  subst q0; subst q2
  go_enter Ybad.func3, Ybad.ntmps3
  go_wp2_with fail
  refine (clone_any b off len cap zs _ (by omega) hm hz H.out.cells).mono ?_
  rintro en w1 ⟨g, cap', rfl, hk1, hg1, hB1⟩
  have M1 : Hid (Mem w1 t fr b off len zs) := H.out.below (by omega) hB1
  have HK1 : Hid (∀ j, j < len → w1.cell? ⟨g, j, none⟩ = some (.int .u8 (zs.getD j 0))) := hk1
  clear hk1
  go_wp2_with fail
  have hB1' : Below w1.heap.size w1 (w1.alloc (.cells #[.slice none 0 0, .bool true] 26)) := (Below.refl _ _).alloc (Nat.le_refl _) _
  have M1' := M1.out.below (by omega) hB1'
  refine (kb_3 true b off len cap (zs.getD 2 0) (zs.getD 1 0) (zs.getD 0 0) _ t fr M1'.tab h3 (M1'.cells 2 (by omega)) (M1'.cells 1 (by omega)) (M1'.cells 0 (by omega)) (hx2.out.symm ▸ bx) (he2.out.symm ▸ be) (hb2.out.symm ▸ bb)).mono ?_
  rintro en w2 ⟨rfl, hB2⟩
  rw [hx2.out, he2.out, hb2.out, hV, hO]
  have M2 : Hid (Mem w2 t fr b off len zs) := M1'.below (by omega) hB2
  have hk2 : Hid (∀ j, j < len → w2.cell? ⟨g, 0 + j, none⟩ = some (.int .u8 (zs.getD j 0))) := fun j hj => by
    rw [Nat.zero_add]
    exact (hB2.cell (show g < (w1.alloc _).heap.size by simp; omega)).trans ((hB1'.cell (show g < w1.heap.size from hg1)).trans (HK1.out j hj))
  have hB : Below w.heap.size w w2 := hB1.trans ((hB1'.mono hB1.size).trans (hB2.mono (by have := hB1.size; simp; omega)))
  have c0 := M2.out.cells 0 (by omega)
  have c1 := M2.out.cells 1 (by omega)
  have c2 := M2.out.cells 2 (by omega)
  rw [hb2.out, Nat.add_zero] at c0
  rw [he2.out] at c1
  rw [hx2.out] at c2
  clear hV hO M1' hB1' HK1 M1 hB1 hB2
  go_wp2_with (first | (go_at_call 6; refine (rate_any _ _ _ (by simp) (by omega) (by omega)).mono ?_; rintro en w3 ⟨rfl, rfl⟩) | (go_at_call 7; refine (equal_any b off cap g 0 cap' len zs _ hm M2.out.cells hk2.out).mono ?_; rintro en w4 ⟨rfl, hn⟩))
  go_ret
  obtain ⟨n, rfl⟩ := hn
  exact ⟨rfl, hB.trans ⟨rfl, rfl, rfl, Nat.le_refl _, fun _ _ => rfl⟩⟩

theorem law_3 (xA : Bool) (b off len cap : Nat) (zs : List Int) (x e b0 : Int) (w : World) (t : TypeId) (fr : Nat × Nat) (H : Hid (Mem w t fr b off len zs)) (h3 : 2 < len) (hm : len ≤ 1048576) (hz : len ≤ zs.length)
    (hx2 : Hid (zs.getD 2 0 = x)) (he2 : Hid (zs.getD 1 0 = e)) (hb2 : Hid (zs.getD 0 0 = b0))
    (bx : 0 ≤ x ∧ x ≤ 255) (be : 0 ≤ e ∧ e ≤ 255) (bb : 0 ≤ b0 ∧ b0 ≤ 255) :
    Calls Ybad.prog 3 #[.bool xA, .slice (some ⟨b, off, none⟩) len cap] w fun e w' => e = .returned (.bool true) ∧ Below w.heap.size w w' := by
  have ne : ∀ z : Int, ¬ z = 0 → (z != 0) = true := fun z h => bne_iff_ne.2 h
  have nb : ¬ b0 = 255 → (b0 == 255) = false := fun h => beq_eq_false_iff_ne.2 h
  by_cases q1 : x = 0
  · by_cases q2 : e = 0
    · by_cases q3 : b0 = 255
      · exact law3A2 xA b off len cap zs x e b0 w t fr H h3 hm hz hx2 he2 hb2 bx be bb q1 q2 q3
      · exact law3A3 xA b off len cap zs x e b0 w t fr H h3 hm hz hx2 he2 hb2 bx be bb q1 q2 (nb q3)
    · exact law3A1 xA b off len cap zs x e b0 w t fr H h3 hm hz hx2 he2 hb2 bx be bb q1 (ne e q2)
  · cases q0 : xA with
    | false =>
      subst q0
      by_cases q4 : x ≤ 246
      · exact law3B2 false b off len cap zs x e b0 w t fr H h3 hm hz hx2 he2 hb2 bx be bb rfl (ne x q1) q4
      · exact law3B1 false b off len cap zs x e b0 w t fr H h3 hm hz hx2 he2 hb2 bx be bb rfl (ne x q1) (by omega)
    | true =>
      subst q0
      by_cases q4 : x ≤ 254
      · by_cases q2 : e = 0
        · by_cases q3 : b0 = 255
          · exact law3C2 true b off len cap zs x e b0 w t fr H h3 hm hz hx2 he2 hb2 bx be bb rfl (ne x q1) q4 q2 q3
          · exact law3C3 true b off len cap zs x e b0 w t fr H h3 hm hz hx2 he2 hb2 bx be bb rfl (ne x q1) q4 q2 (nb q3)
        · exact law3C1 true b off len cap zs x e b0 w t fr H h3 hm hz hx2 he2 hb2 bx be bb rfl (ne x q1) q4 (ne e q2)
      · by_cases q2 : e = 0
        · by_cases q3 : b0 = 255
          · exact law3C02 true b off len cap zs x e b0 w t fr H h3 hm hz hx2 he2 hb2 bx be bb rfl (by omega) q2 q3
          · exact law3C03 true b off len cap zs x e b0 w t fr H h3 hm hz hx2 he2 hb2 bx be bb rfl (by omega) q2 (nb q3)
        · exact law3C01 true b off len cap zs x e b0 w t fr H h3 hm hz hx2 he2 hb2 bx be bb rfl (by omega) (ne e q2)

set_option maxHeartbeats 800000 in
theorem law2A1 (xA : Bool) (b off len cap : Nat) (zs : List Int) (e b0 : Int) (w : World) (t : TypeId) (fr : Nat × Nat) (H : Hid (Mem w t fr b off len zs)) (h3 : len = 2) (hm : len ≤ 1048576) (hz : len ≤ zs.length)
    (he2 : Hid (zs.getD 1 0 = e)) (hb2 : Hid (zs.getD 0 0 = b0))
    (be : 0 ≤ e ∧ e ≤ 255) (bb : 0 ≤ b0 ∧ b0 ≤ 255)
    (t2 : (e != 0) = true) :
    Calls Ybad.prog 3 #[.bool xA, .slice (some ⟨b, off, none⟩) len cap] w fun e w' => e = .returned (.bool true) ∧ Below w.heap.size w w' := by
  have hbl : b < w.heap.size := block_lt_of_cell (H.out.cells 0 (by omega))
  have l1 := look_bd 1 e (by simp) be.1 be.2
  have l0 := look_bd 0 b0 (by simp) bb.1 bb.2
  obtain ⟨hV, hO⟩ := leafA1 (xA := xA) (b0 := b0) (x := 0) rfl t2
  subst h3
  go_enter Ybad.func3, Ybad.ntmps3
  go_wp2_with fail
  refine (clone_any b off 2 cap zs _ (by omega) hm hz H.out.cells).mono ?_
  rintro en w1 ⟨g, cap', rfl, hk1, hg1, hB1⟩
  have M1 : Hid (Mem w1 t fr b off 2 zs) := H.out.below (by omega) hB1
  have HK1 : Hid (∀ j, j < 2 → w1.cell? ⟨g, j, none⟩ = some (.int .u8 (zs.getD j 0))) := hk1
  clear hk1
  go_wp2_with fail
  have hB1' : Below w1.heap.size w1 (w1.alloc (.cells #[.slice none 0 0, .bool xA] 26)) := (Below.refl _ _).alloc (Nat.le_refl _) _
  have M1' := M1.out.below (by omega) hB1'
  refine (kb_2 xA b off 2 cap (zs.getD 1 0) (zs.getD 0 0) _ t fr M1'.tab rfl (M1'.cells 1 (by omega)) (M1'.cells 0 (by omega)) (he2.out.symm ▸ be) (hb2.out.symm ▸ bb)).mono ?_
  rintro en w2 ⟨rfl, hB2⟩
  rw [he2.out, hb2.out, hV, hO]
  have M2 : Hid (Mem w2 t fr b off 2 zs) := M1'.below (by omega) hB2
  have hk2 : Hid (∀ j, j < 2 → w2.cell? ⟨g, 0 + j, none⟩ = some (.int .u8 (zs.getD j 0))) := fun j hj => by
    rw [Nat.zero_add]
    exact (hB2.cell (show g < (w1.alloc _).heap.size by simp; omega)).trans ((hB1'.cell (show g < w1.heap.size from hg1)).trans (HK1.out j hj))
  have hB : Below w.heap.size w w2 := hB1.trans ((hB1'.mono hB1.size).trans (hB2.mono (by have := hB1.size; simp; omega)))
  have c0 := M2.out.cells 0 (by omega)
  have c1 := M2.out.cells 1 (by omega)
  rw [hb2.out, Nat.add_zero] at c0
  rw [he2.out] at c1
  clear hV hO M1' hB1' HK1 M1 hB1 hB2
  go_wp2_with (first | (go_at_call 6; refine (rate_any _ _ _ (by simp) (by omega) (by omega)).mono ?_; rintro en w3 ⟨rfl, rfl⟩) | (go_at_call 7; refine (equal_any b off cap g 0 cap' 2 zs _ hm M2.out.cells hk2.out).mono ?_; rintro en w4 ⟨rfl, hn⟩))
  go_ret
  obtain ⟨n, rfl⟩ := hn
  exact ⟨rfl, hB.trans ⟨rfl, rfl, rfl, Nat.le_refl _, fun _ _ => rfl⟩⟩

set_option maxHeartbeats 800000 in
theorem law2A2 (xA : Bool) (b off len cap : Nat) (zs : List Int) (e b0 : Int) (w : World) (t : TypeId) (fr : Nat × Nat) (H : Hid (Mem w t fr b off len zs)) (h3 : len = 2) (hm : len ≤ 1048576) (hz : len ≤ zs.length)
    (he2 : Hid (zs.getD 1 0 = e)) (hb2 : Hid (zs.getD 0 0 = b0))
    (be : 0 ≤ e ∧ e ≤ 255) (bb : 0 ≤ b0 ∧ b0 ≤ 255)
    (q2 : e = 0) (q3 : b0 = 255) :
    Calls Ybad.prog 3 #[.bool xA, .slice (some ⟨b, off, none⟩) len cap] w fun e w' => e = .returned (.bool true) ∧ Below w.heap.size w w' := by
  have hbl : b < w.heap.size := block_lt_of_cell (H.out.cells 0 (by omega))
  have l1 := look_bd 1 e (by simp) be.1 be.2
  have l0 := look_bd 0 b0 (by simp) bb.1 bb.2
  obtain ⟨hV, hO⟩ := leafA2 (xA := xA) (b0 := b0) (e := e) (x := 0) rfl (by simp [q2]) (by simp [q3])
  subst h3; subst q2; subst q3
  go_enter Ybad.func3, Ybad.ntmps3
  go_wp2_with fail
  refine (clone_any b off 2 cap zs _ (by omega) hm hz H.out.cells).mono ?_
  rintro en w1 ⟨g, cap', rfl, hk1, hg1, hB1⟩
  have M1 : Hid (Mem w1 t fr b off 2 zs) := H.out.below (by omega) hB1
  have HK1 : Hid (∀ j, j < 2 → w1.cell? ⟨g, j, none⟩ = some (.int .u8 (zs.getD j 0))) := hk1
  clear hk1
  go_wp2_with fail
  have hB1' : Below w1.heap.size w1 (w1.alloc (.cells #[.slice none 0 0, .bool xA] 26)) := (Below.refl _ _).alloc (Nat.le_refl _) _
  have M1' := M1.out.below (by omega) hB1'
  refine (kb_2 xA b off 2 cap (zs.getD 1 0) (zs.getD 0 0) _ t fr M1'.tab rfl (M1'.cells 1 (by omega)) (M1'.cells 0 (by omega)) (he2.out.symm ▸ be) (hb2.out.symm ▸ bb)).mono ?_
  rintro en w2 ⟨rfl, hB2⟩
  rw [he2.out, hb2.out, hV, hO]
  have M2 : Hid (Mem w2 t fr b off 2 zs) := M1'.below (by omega) hB2
  have hk2 : Hid (∀ j, j < 2 → w2.cell? ⟨g, 0 + j, none⟩ = some (.int .u8 (zs.getD j 0))) := fun j hj => by
    rw [Nat.zero_add]
    exact (hB2.cell (show g < (w1.alloc _).heap.size by simp; omega)).trans ((hB1'.cell (show g < w1.heap.size from hg1)).trans (HK1.out j hj))
  have hB : Below w.heap.size w w2 := hB1.trans ((hB1'.mono hB1.size).trans (hB2.mono (by have := hB1.size; simp; omega)))
  have c0 := M2.out.cells 0 (by omega)
  have c1 := M2.out.cells 1 (by omega)
  rw [hb2.out, Nat.add_zero] at c0
  rw [he2.out] at c1
  clear hV hO M1' hB1' HK1 M1 hB1 hB2
  go_wp2_with (first | (go_at_call 6; refine (rate_any _ _ _ (by simp) (by omega) (by omega)).mono ?_; rintro en w3 ⟨rfl, rfl⟩) | (go_at_call 7; refine (equal_any b off cap g 0 cap' 2 zs _ hm M2.out.cells hk2.out).mono ?_; rintro en w4 ⟨rfl, hn⟩))
  go_ret
  obtain ⟨n, rfl⟩ := hn
  exact ⟨rfl, hB.trans ⟨rfl, rfl, rfl, Nat.le_refl _, fun _ _ => rfl⟩⟩

set_option maxHeartbeats 800000 in
theorem law2A3 (xA : Bool) (b off len cap : Nat) (zs : List Int) (e b0 : Int) (w : World) (t : TypeId) (fr : Nat × Nat) (H : Hid (Mem w t fr b off len zs)) (h3 : len = 2) (hm : len ≤ 1048576) (hz : len ≤ zs.length)
    (he2 : Hid (zs.getD 1 0 = e)) (hb2 : Hid (zs.getD 0 0 = b0))
    (be : 0 ≤ e ∧ e ≤ 255) (bb : 0 ≤ b0 ∧ b0 ≤ 255)
    (q2 : e = 0) (t3 : (b0 == 255) = false) :
    Calls Ybad.prog 3 #[.bool xA, .slice (some ⟨b, off, none⟩) len cap] w fun e w' => e = .returned (.bool true) ∧ Below w.heap.size w w' := by
  have hbl : b < w.heap.size := block_lt_of_cell (H.out.cells 0 (by omega))
  have l1 := look_bd 1 e (by simp) be.1 be.2
  have l0 := look_bd 0 b0 (by simp) bb.1 bb.2
  obtain ⟨hV, hO⟩ := leafA3 (xA := xA) (b0 := b0) (e := e) (x := 0) rfl (by simp [q2]) t3
  subst h3; subst q2
  go_enter Ybad.func3, Ybad.ntmps3
  go_wp2_with fail
  refine (clone_any b off 2 cap zs _ (by omega) hm hz H.out.cells).mono ?_
  rintro en w1 ⟨g, cap', rfl, hk1, hg1, hB1⟩
  have M1 : Hid (Mem w1 t fr b off 2 zs) := H.out.below (by omega) hB1
  have HK1 : Hid (∀ j, j < 2 → w1.cell? ⟨g, j, none⟩ = some (.int .u8 (zs.getD j 0))) := hk1
  clear hk1
  go_wp2_with fail
  have hB1' : Below w1.heap.size w1 (w1.alloc (.cells #[.slice none 0 0, .bool xA] 26)) := (Below.refl _ _).alloc (Nat.le_refl _) _
  have M1' := M1.out.below (by omega) hB1'
  refine (kb_2 xA b off 2 cap (zs.getD 1 0) (zs.getD 0 0) _ t fr M1'.tab rfl (M1'.cells 1 (by omega)) (M1'.cells 0 (by omega)) (he2.out.symm ▸ be) (hb2.out.symm ▸ bb)).mono ?_
  rintro en w2 ⟨rfl, hB2⟩
  rw [he2.out, hb2.out, hV, hO]
  have M2 : Hid (Mem w2 t fr b off 2 zs) := M1'.below (by omega) hB2
  have hk2 : Hid (∀ j, j < 2 → w2.cell? ⟨g, 0 + j, none⟩ = some (.int .u8 (zs.getD j 0))) := fun j hj => by
    rw [Nat.zero_add]
    exact (hB2.cell (show g < (w1.alloc _).heap.size by simp; omega)).trans ((hB1'.cell (show g < w1.heap.size from hg1)).trans (HK1.out j hj))
  have hB : Below w.heap.size w w2 := hB1.trans ((hB1'.mono hB1.size).trans (hB2.mono (by have := hB1.size; simp; omega)))
  have c0 := M2.out.cells 0 (by omega)
  have c1 := M2.out.cells 1 (by omega)
  rw [hb2.out, Nat.add_zero] at c0
  rw [he2.out] at c1
  clear hV hO M1' hB1' HK1 M1 hB1 hB2
  go_wp2_with (first | (go_at_call 6; refine (rate_any _ _ _ (by simp) (by omega) (by omega)).mono ?_; rintro en w3 ⟨rfl, rfl⟩) | (go_at_call 7; refine (equal_any b off cap g 0 cap' 2 zs _ hm M2.out.cells hk2.out).mono ?_; rintro en w4 ⟨rfl, hn⟩))
  go_ret
  obtain ⟨n, rfl⟩ := hn
  exact ⟨rfl, hB.trans ⟨rfl, rfl, rfl, Nat.le_refl _, fun _ _ => rfl⟩⟩

theorem law_2 (xA : Bool) (b off len cap : Nat) (zs : List Int) (e b0 : Int) (w : World) (t : TypeId) (fr : Nat × Nat) (H : Hid (Mem w t fr b off len zs)) (h3 : len = 2) (hm : len ≤ 1048576) (hz : len ≤ zs.length)
    (he2 : Hid (zs.getD 1 0 = e)) (hb2 : Hid (zs.getD 0 0 = b0))
    (be : 0 ≤ e ∧ e ≤ 255) (bb : 0 ≤ b0 ∧ b0 ≤ 255) :
    Calls Ybad.prog 3 #[.bool xA, .slice (some ⟨b, off, none⟩) len cap] w fun e w' => e = .returned (.bool true) ∧ Below w.heap.size w w' := by
  have ne : ∀ z : Int, ¬ z = 0 → (z != 0) = true := fun z h => bne_iff_ne.2 h
  have nb : ¬ b0 = 255 → (b0 == 255) = false := fun h => beq_eq_false_iff_ne.2 h
  by_cases q2 : e = 0
  · by_cases q3 : b0 = 255
    · exact law2A2 xA b off len cap zs e b0 w t fr H h3 hm hz he2 hb2 be bb q2 q3
    · exact law2A3 xA b off len cap zs e b0 w t fr H h3 hm hz he2 hb2 be bb q2 (nb q3)
  · exact law2A1 xA b off len cap zs e b0 w t fr H h3 hm hz he2 hb2 be bb (ne e q2)

set_option maxHeartbeats 800000 in
theorem law1A2 (xA : Bool) (b off len cap : Nat) (zs : List Int) (b0 : Int) (w : World) (t : TypeId) (fr : Nat × Nat) (H : Hid (Mem w t fr b off len zs)) (h3 : len = 1) (hm : len ≤ 1048576) (hz : len ≤ zs.length)
    (hb2 : Hid (zs.getD 0 0 = b0))
    (bb : 0 ≤ b0 ∧ b0 ≤ 255)
    (q3 : b0 = 255) :
    Calls Ybad.prog 3 #[.bool xA, .slice (some ⟨b, off, none⟩) len cap] w fun e w' => e = .returned (.bool true) ∧ Below w.heap.size w w' := by
  have hbl : b < w.heap.size := block_lt_of_cell (H.out.cells 0 (by omega))
  have l0 := look_bd 0 b0 (by simp) bb.1 bb.2
  obtain ⟨hV, hO⟩ := leafA2 (xA := xA) (b0 := b0) (e := 0) (x := 0) rfl rfl (by simp [q3])
  subst h3; subst q3
  go_enter Ybad.func3, Ybad.ntmps3
  go_wp2_with fail
  refine (clone_any b off 1 cap zs _ (by omega) hm hz H.out.cells).mono ?_
  rintro en w1 ⟨g, cap', rfl, hk1, hg1, hB1⟩
  have M1 : Hid (Mem w1 t fr b off 1 zs) := H.out.below (by omega) hB1
  have HK1 : Hid (∀ j, j < 1 → w1.cell? ⟨g, j, none⟩ = some (.int .u8 (zs.getD j 0))) := hk1
  clear hk1
  go_wp2_with fail
  have hB1' : Below w1.heap.size w1 (w1.alloc (.cells #[.slice none 0 0, .bool xA] 26)) := (Below.refl _ _).alloc (Nat.le_refl _) _
  have M1' := M1.out.below (by omega) hB1'
  refine (kb_1 xA b off 1 cap (zs.getD 0 0) _ t fr M1'.tab rfl (M1'.cells 0 (by omega)) (hb2.out.symm ▸ bb)).mono ?_
  rintro en w2 ⟨rfl, hB2⟩
  rw [hb2.out, hV, hO]
  have M2 : Hid (Mem w2 t fr b off 1 zs) := M1'.below (by omega) hB2
  have hk2 : Hid (∀ j, j < 1 → w2.cell? ⟨g, 0 + j, none⟩ = some (.int .u8 (zs.getD j 0))) := fun j hj => by
    rw [Nat.zero_add]
    exact (hB2.cell (show g < (w1.alloc _).heap.size by simp; omega)).trans ((hB1'.cell (show g < w1.heap.size from hg1)).trans (HK1.out j hj))
  have hB : Below w.heap.size w w2 := hB1.trans ((hB1'.mono hB1.size).trans (hB2.mono (by have := hB1.size; simp; omega)))
  have c0 := M2.out.cells 0 (by omega)
  rw [hb2.out, Nat.add_zero] at c0
  clear hV hO M1' hB1' HK1 M1 hB1 hB2
  go_wp2_with (first | (go_at_call 6; refine (rate_any _ _ _ (by simp) (by omega) (by omega)).mono ?_; rintro en w3 ⟨rfl, rfl⟩) | (go_at_call 7; refine (equal_any b off cap g 0 cap' 1 zs _ hm M2.out.cells hk2.out).mono ?_; rintro en w4 ⟨rfl, hn⟩))
  go_ret
  obtain ⟨n, rfl⟩ := hn
  exact ⟨rfl, hB.trans ⟨rfl, rfl, rfl, Nat.le_refl _, fun _ _ => rfl⟩⟩

set_option maxHeartbeats 800000 in
theorem law1A3 (xA : Bool) (b off len cap : Nat) (zs : List Int) (b0 : Int) (w : World) (t : TypeId) (fr : Nat × Nat) (H : Hid (Mem w t fr b off len zs)) (h3 : len = 1) (hm : len ≤ 1048576) (hz : len ≤ zs.length)
    (hb2 : Hid (zs.getD 0 0 = b0))
    (bb : 0 ≤ b0 ∧ b0 ≤ 255)
    (t3 : (b0 == 255) = false) :
    Calls Ybad.prog 3 #[.bool xA, .slice (some ⟨b, off, none⟩) len cap] w fun e w' => e = .returned (.bool true) ∧ Below w.heap.size w w' := by
  have hbl : b < w.heap.size := block_lt_of_cell (H.out.cells 0 (by omega))
  have l0 := look_bd 0 b0 (by simp) bb.1 bb.2
  obtain ⟨hV, hO⟩ := leafA3 (xA := xA) (b0 := b0) (e := 0) (x := 0) rfl rfl t3
  subst h3
  go_enter Ybad.func3, Ybad.ntmps3
  go_wp2_with fail
  refine (clone_any b off 1 cap zs _ (by omega) hm hz H.out.cells).mono ?_
  rintro en w1 ⟨g, cap', rfl, hk1, hg1, hB1⟩
  have M1 : Hid (Mem w1 t fr b off 1 zs) := H.out.below (by omega) hB1
  have HK1 : Hid (∀ j, j < 1 → w1.cell? ⟨g, j, none⟩ = some (.int .u8 (zs.getD j 0))) := hk1
  clear hk1
  go_wp2_with fail
  have hB1' : Below w1.heap.size w1 (w1.alloc (.cells #[.slice none 0 0, .bool xA] 26)) := (Below.refl _ _).alloc (Nat.le_refl _) _
  have M1' := M1.out.below (by omega) hB1'
  refine (kb_1 xA b off 1 cap (zs.getD 0 0) _ t fr M1'.tab rfl (M1'.cells 0 (by omega)) (hb2.out.symm ▸ bb)).mono ?_
  rintro en w2 ⟨rfl, hB2⟩
  rw [hb2.out, hV, hO]
  have M2 : Hid (Mem w2 t fr b off 1 zs) := M1'.below (by omega) hB2
  have hk2 : Hid (∀ j, j < 1 → w2.cell? ⟨g, 0 + j, none⟩ = some (.int .u8 (zs.getD j 0))) := fun j hj => by
    rw [Nat.zero_add]
    exact (hB2.cell (show g < (w1.alloc _).heap.size by simp; omega)).trans ((hB1'.cell (show g < w1.heap.size from hg1)).trans (HK1.out j hj))
  have hB : Below w.heap.size w w2 := hB1.trans ((hB1'.mono hB1.size).trans (hB2.mono (by have := hB1.size; simp; omega)))
  have c0 := M2.out.cells 0 (by omega)
  rw [hb2.out, Nat.add_zero] at c0
  clear hV hO M1' hB1' HK1 M1 hB1 hB2
  go_wp2_with (first | (go_at_call 6; refine (rate_any _ _ _ (by simp) (by omega) (by omega)).mono ?_; rintro en w3 ⟨rfl, rfl⟩) | (go_at_call 7; refine (equal_any b off cap g 0 cap' 1 zs _ hm M2.out.cells hk2.out).mono ?_; rintro en w4 ⟨rfl, hn⟩))
  go_ret
  obtain ⟨n, rfl⟩ := hn
  exact ⟨rfl, hB.trans ⟨rfl, rfl, rfl, Nat.le_refl _, fun _ _ => rfl⟩⟩

theorem law_1 (xA : Bool) (b off len cap : Nat) (zs : List Int) (b0 : Int) (w : World) (t : TypeId) (fr : Nat × Nat) (H : Hid (Mem w t fr b off len zs)) (h3 : len = 1) (hm : len ≤ 1048576) (hz : len ≤ zs.length)
    (hb2 : Hid (zs.getD 0 0 = b0))
    (bb : 0 ≤ b0 ∧ b0 ≤ 255) :
    Calls Ybad.prog 3 #[.bool xA, .slice (some ⟨b, off, none⟩) len cap] w fun e w' => e = .returned (.bool true) ∧ Below w.heap.size w w' := by
  have nb : ¬ b0 = 255 → (b0 == 255) = false := fun h => beq_eq_false_iff_ne.2 h
  by_cases q3 : b0 = 255
  · exact law1A2 xA b off len cap zs b0 w t fr H h3 hm hz hb2 bb q3
  · exact law1A3 xA b off len cap zs b0 w t fr H h3 hm hz hb2 bb (nb q3)
end Go.Proofs.YbulkdjhiDoor
