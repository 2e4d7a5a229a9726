import Derived.Test.YbulkdjhiDoorRate
import Derived.WalkKit
import Derived.WalkSpells
import Derived.BigQuiet
import Derived.Deep.QuietTactic
namespace Go.Proofs.YbulkdjhiDoor
open Go.RowKit
set_option linter.unusedVariables false
def base (e b0 : Int) : Option Int := if e ≠ 0 then look 1 e else if b0 = 255 then some 0 else look 0 b0
def kbV (xA : Bool) (x e b0 : Int) : Int := if x ≠ 0 ∧ xA = false then (look 2 (if x ≤ 246 then x else 246)).getD 0 else if 254 < x then 0 else (base e b0).getD 0 + x * 256000
def kbO (xA : Bool) (x e b0 : Int) : Bool := if x ≠ 0 ∧ xA = false then (look 2 (if x ≤ 246 then x else 246)).isSome else if 254 < x then false else (base e b0).isSome

theorem look_bd (g c : Int) (hg : g = 0 ∨ g = 1 ∨ g = 2) (h0 : 0 ≤ c) (h1 : c ≤ 255) : 0 ≤ (look g c).getD 0 ∧ (look g c).getD 0 ≤ 10000000 := by
  rcases hg with rfl | rfl | rfl
  · exact below256 (p := fun c => 0 ≤ (look 0 c).getD 0 ∧ (look 0 c).getD 0 ≤ 10000000) (by decide +kernel) c h0 h1
  · exact below256 (p := fun c => 0 ≤ (look 1 c).getD 0 ∧ (look 1 c).getD 0 ≤ 10000000) (by decide +kernel) c h0 h1
  · exact below256 (p := fun c => 0 ≤ (look 2 c).getD 0 ∧ (look 2 c).getD 0 ≤ 10000000) (by decide +kernel) c h0 h1

/-- The leaves, each as the walk shows it. -/
theorem kb_alone {x e b0 : Int} {xA : Bool} (hx : x ≠ 0) (hA : xA = false) (c : Int) (hc : c = if x ≤ 246 then x else 246) : kbV xA x e b0 = (look 2 c).getD 0 ∧ kbO xA x e b0 = (look 2 c).isSome := by
  have h : x ≠ 0 ∧ xA = false := ⟨hx, hA⟩
  subst hc; unfold kbV kbO; rw [if_pos h, if_pos h]; exact ⟨rfl, rfl⟩
theorem kb_big {x e b0 : Int} {xA : Bool} (hx : 254 < x) (hA : ¬ (x ≠ 0 ∧ xA = false)) : kbV xA x e b0 = 0 ∧ kbO xA x e b0 = false := by
  rw [kbV, kbO, if_neg hA, if_neg hA, if_pos hx, if_pos hx]; exact ⟨rfl, rfl⟩
theorem kb_e {x e b0 : Int} {xA : Bool} (hx : x ≤ 254) (hA : ¬ (x ≠ 0 ∧ xA = false)) (he : e ≠ 0) : kbV xA x e b0 = (look 1 e).getD 0 + x * 256000 ∧ kbO xA x e b0 = (look 1 e).isSome := by
  rw [kbV, kbO, if_neg hA, if_neg hA, if_neg (by omega), if_neg (by omega), base, if_pos he]; exact ⟨rfl, rfl⟩
theorem kb_255 {x e b0 : Int} {xA : Bool} (hx : x ≤ 254) (hA : ¬ (x ≠ 0 ∧ xA = false)) (he : e = 0) (hb : b0 = 255) : kbV xA x e b0 = x * 256000 ∧ kbO xA x e b0 = true := by
  rw [kbV, kbO, if_neg hA, if_neg hA, if_neg (by omega), if_neg (by omega), base, if_neg (by simp [he]), if_pos hb]; exact ⟨by simp, rfl⟩
theorem kb_b {x e b0 : Int} {xA : Bool} (hx : x ≤ 254) (hA : ¬ (x ≠ 0 ∧ xA = false)) (he : e = 0) (hb : b0 ≠ 255) : kbV xA x e b0 = (look 0 b0).getD 0 + x * 256000 ∧ kbO xA x e b0 = (look 0 b0).isSome := by
  rw [kbV, kbO, if_neg hA, if_neg hA, if_neg (by omega), if_neg (by omega), base, if_neg (by simp [he]), if_neg hb]; exact ⟨rfl, rfl⟩
theorem ret_kb {xA : Bool} {x e b0 V : Int} {O : Bool} (h : kbV xA x e b0 = V ∧ kbO xA x e b0 = O) : Ending.returned (.tuple #[.int .u64 V, .bool O]) = .returned (.tuple #[.int .u64 (kbV xA x e b0), .bool (kbO xA x e b0)]) := by rw [h.1, h.2]
theorem nA1 {x : Int} {xA : Bool} (h : x = 0) : ¬ (x ≠ 0 ∧ xA = false) := fun k => k.1 h
theorem nA2 {x : Int} {xA : Bool} (h : (x != 0) = false ∨ (!xA) = false) : ¬ (x ≠ 0 ∧ xA = false) := by
  rintro ⟨a, rfl⟩
  rcases h with h | h
  · exact a (by simpa using h)
  · simp at h
theorem leafA1 {x e b0 : Int} {xA : Bool} (hx : x = 0) (he : (e != 0) = true) : kbV xA x e b0 = (look 1 e).getD 0 ∧ kbO xA x e b0 = (look 1 e).isSome := by
  have := kb_e (xA := xA) (b0 := b0) (x := x) (by omega) (nA1 hx) (bne_iff_ne.1 he); rw [hx] at this ⊢; simpa using this
theorem leafA2 {x e b0 : Int} {xA : Bool} (hx : x = 0) (he : (e != 0) = false) (hb : (b0 == 255) = true) : kbV xA x e b0 = 0 ∧ kbO xA x e b0 = true := by
  have := kb_255 (xA := xA) (b0 := b0) (x := x) (e := e) (by omega) (nA1 hx) (by simpa using he) (by simpa using hb); rw [hx] at this ⊢; simpa using this
theorem leafA3 {x e b0 : Int} {xA : Bool} (hx : x = 0) (he : (e != 0) = false) (hb : (b0 == 255) = false) : kbV xA x e b0 = (look 0 b0).getD 0 ∧ kbO xA x e b0 = (look 0 b0).isSome := by
  have := kb_b (xA := xA) (b0 := b0) (x := x) (e := e) (by omega) (nA1 hx) (by simpa using he) (by simpa using hb); rw [hx] at this ⊢; simpa using this
theorem leafB1 {x e b0 : Int} {xA : Bool} (h : (x != 0) = true ∧ (!xA) = true) (hx : 246 < x) : kbV xA x e b0 = (look 2 246).getD 0 ∧ kbO xA x e b0 = (look 2 246).isSome :=
  kb_alone (bne_iff_ne.1 h.1) (by simpa using h.2) 246 (by rw [if_neg (by omega)])
theorem leafB2 {x e b0 : Int} {xA : Bool} (h : (x != 0) = true ∧ (!xA) = true) (hx : x ≤ 246) : kbV xA x e b0 = (look 2 x).getD 0 ∧ kbO xA x e b0 = (look 2 x).isSome :=
  kb_alone (bne_iff_ne.1 h.1) (by simpa using h.2) x (by rw [if_pos hx])
theorem leafC0 {x e b0 : Int} {xA : Bool} (h : (x != 0) = false ∨ (!xA) = false) (hx : 254 < x) : kbV xA x e b0 = 0 ∧ kbO xA x e b0 = false := kb_big hx (nA2 h)
theorem leafC1 {x e b0 : Int} {xA : Bool} (h : (x != 0) = false ∨ (!xA) = false) (hx : x ≤ 254) (he : (e != 0) = true) : kbV xA x e b0 = (look 1 e).getD 0 + x * 256000 ∧ kbO xA x e b0 = (look 1 e).isSome := kb_e hx (nA2 h) (bne_iff_ne.1 he)
theorem leafC2 {x e b0 : Int} {xA : Bool} (h : (x != 0) = false ∨ (!xA) = false) (hx : x ≤ 254) (he : (e != 0) = false) (hb : (b0 == 255) = true) : kbV xA x e b0 = x * 256000 ∧ kbO xA x e b0 = true := kb_255 hx (nA2 h) (by simpa using he) (by simpa using hb)
theorem leafC3 {x e b0 : Int} {xA : Bool} (h : (x != 0) = false ∨ (!xA) = false) (hx : x ≤ 254) (he : (e != 0) = false) (hb : (b0 == 255) = false) : kbV xA x e b0 = (look 0 b0).getD 0 + x * 256000 ∧ kbO xA x e b0 = (look 0 b0).isSome := kb_b hx (nA2 h) (by simpa using he) (by simpa using hb)

set_option maxHeartbeats 800000 in
theorem kb_3 (xA : Bool) (b off len cap : Nat) (x e b0 : Int) (w : World) (t : TypeId) (fr : Nat × Nat) (hb : w.heap[0]? = some (.cells cellsRR t fr)) (h3 : 2 < len)
    (hx : w.cell? ⟨b, off + 2, none⟩ = some (.int .u8 x)) (he : w.cell? ⟨b, off + 1, none⟩ = some (.int .u8 e)) (hb0 : w.cell? ⟨b, off, none⟩ = some (.int .u8 b0))
    (bx : 0 ≤ x ∧ x ≤ 255) (be : 0 ≤ e ∧ e ≤ 255) (bb : 0 ≤ b0 ∧ b0 ≤ 255) :
    Calls Ybad.prog 5 #[.agg #[.slice none 0 0, .bool xA], .slice (some ⟨b, off, none⟩) len cap] w fun en w' => en = .returned (.tuple #[.int .u64 (kbV xA x e b0), .bool (kbO xA x e b0)]) ∧ Below w.heap.size w w' := by
  have h0 : 0 < w.heap.size := lt_of_block hb
  have hbl : b < w.heap.size := block_lt_of_cell hb0
  have l1 := look_bd 1 e (by simp) be.1 be.2
  have l0 := look_bd 0 b0 (by simp) bb.1 bb.2
  have hbB : ∀ o w1, Below (w.alloc o).heap.size (w.alloc o) w1 → Below w.heap.size w w1 := fun o w1 h => ((Below.refl _ _).alloc (Nat.le_refl _) _).trans (h.mono (by simp))
  have hbA : ∀ o, Below w.heap.size w (w.alloc o) := fun o => (Below.refl _ _).alloc (Nat.le_refl _) _
  go_enter Ybad.func5, Ybad.ntmps5
  go_wp2_with (first | (go_at_call 8; refine (range_any _ _ _ t fr (by rw [Below.heap_alloc _ _ _ h0]; exact hb) (by omega) (by omega)).mono ?_; rintro en w1 ⟨rfl, hB1⟩))
  all_goals go_ret2
  all_goals first
    | exact ⟨ret_kb (leafB1 ‹_› ‹_›), hbB _ _ hB1⟩
    | exact ⟨ret_kb (leafB2 ‹_› ‹_›), hbB _ _ hB1⟩
    | exact ⟨ret_kb (leafA1 ‹_› ‹_›), hbB _ _ hB1⟩
    | exact ⟨ret_kb (leafA2 ‹_› ‹_› ‹_›), hbA _⟩
    | exact ⟨ret_kb (leafA3 ‹_› ‹_› ‹_›), hbB _ _ hB1⟩
    | exact ⟨ret_kb (leafC0 ‹_› ‹_›), hbB _ _ hB1⟩
    | exact ⟨ret_kb (leafC0 ‹_› ‹_›), hbA _⟩
    | exact ⟨ret_kb (leafC1 ‹_› ‹_› ‹_›), hbB _ _ hB1⟩
    | exact ⟨ret_kb (leafC2 ‹_› ‹_› ‹_› ‹_›), hbA _⟩
    | exact ⟨ret_kb (leafC3 ‹_› ‹_› ‹_› ‹_›), hbB _ _ hB1⟩

set_option maxHeartbeats 800000 in
theorem kb_2 (xA : Bool) (b off len cap : Nat) (e b0 : Int) (w : World) (t : TypeId) (fr : Nat × Nat) (hb : w.heap[0]? = some (.cells cellsRR t fr)) (h3 : len = 2)
    (he : w.cell? ⟨b, off + 1, none⟩ = some (.int .u8 e)) (hb0 : w.cell? ⟨b, off, none⟩ = some (.int .u8 b0))
    (be : 0 ≤ e ∧ e ≤ 255) (bb : 0 ≤ b0 ∧ b0 ≤ 255) :
    Calls Ybad.prog 5 #[.agg #[.slice none 0 0, .bool xA], .slice (some ⟨b, off, none⟩) len cap] w fun en w' => en = .returned (.tuple #[.int .u64 (kbV xA 0 e b0), .bool (kbO xA 0 e b0)]) ∧ Below w.heap.size w w' := by
  subst h3
  have h0 : 0 < w.heap.size := lt_of_block hb
  have hbl : b < w.heap.size := block_lt_of_cell hb0
  have l1 := look_bd 1 e (by simp) be.1 be.2
  have l0 := look_bd 0 b0 (by simp) bb.1 bb.2
  have hbB : ∀ o w1, Below (w.alloc o).heap.size (w.alloc o) w1 → Below w.heap.size w w1 := fun o w1 h => ((Below.refl _ _).alloc (Nat.le_refl _) _).trans (h.mono (by simp))
  have hbA : ∀ o, Below w.heap.size w (w.alloc o) := fun o => (Below.refl _ _).alloc (Nat.le_refl _) _
  go_enter Ybad.func5, Ybad.ntmps5
  go_wp2_with (first | (go_at_call 8; refine (range_any _ _ _ t fr (by rw [Below.heap_alloc _ _ _ h0]; exact hb) (by omega) (by omega)).mono ?_; rintro en w1 ⟨rfl, hB1⟩))
  all_goals go_ret2
  all_goals first
    | exact ⟨ret_kb (leafA1 rfl ‹_›), hbB _ _ hB1⟩
    | exact ⟨ret_kb (leafA2 rfl ‹_› ‹_›), hbA _⟩
    | exact ⟨ret_kb (leafA3 rfl ‹_› ‹_›), hbB _ _ hB1⟩

set_option maxHeartbeats 800000 in
theorem kb_1 (xA : Bool) (b off len cap : Nat) (b0 : Int) (w : World) (t : TypeId) (fr : Nat × Nat) (hb : w.heap[0]? = some (.cells cellsRR t fr)) (h3 : len = 1)
    (hb0 : w.cell? ⟨b, off, none⟩ = some (.int .u8 b0))
    (bb : 0 ≤ b0 ∧ b0 ≤ 255) :
    Calls Ybad.prog 5 #[.agg #[.slice none 0 0, .bool xA], .slice (some ⟨b, off, none⟩) len cap] w fun en w' => en = .returned (.tuple #[.int .u64 (kbV xA 0 0 b0), .bool (kbO xA 0 0 b0)]) ∧ Below w.heap.size w w' := by
  subst h3
  have h0 : 0 < w.heap.size := lt_of_block hb
  have hbl : b < w.heap.size := block_lt_of_cell hb0
  have l0 := look_bd 0 b0 (by simp) bb.1 bb.2
  have hbB : ∀ o w1, Below (w.alloc o).heap.size (w.alloc o) w1 → Below w.heap.size w w1 := fun o w1 h => ((Below.refl _ _).alloc (Nat.le_refl _) _).trans (h.mono (by simp))
  have hbA : ∀ o, Below w.heap.size w (w.alloc o) := fun o => (Below.refl _ _).alloc (Nat.le_refl _) _
  go_enter Ybad.func5, Ybad.ntmps5
  go_wp2_with (first | (go_at_call 8; refine (range_any _ _ _ t fr (by rw [Below.heap_alloc _ _ _ h0]; exact hb) (by omega) (by omega)).mono ?_; rintro en w1 ⟨rfl, hB1⟩))
  all_goals go_ret2
  all_goals first
    | exact ⟨ret_kb (leafA2 rfl rfl ‹_›), hbA _⟩
    | exact ⟨ret_kb (leafA3 rfl rfl ‹_›), hbB _ _ hB1⟩
theorem info5 : (Ybad.prog.info? 5).map (fun i => (i.zero, i.size, i.bytes)) = some (some (.int .u8 0), 1, 1) := by kernel_rfl
theorem u8_at (zs : List Int) (len j : Nat) (hj : j < len) (hz : len ≤ zs.length) : ((zs.take len).map (Value.int .u8))[j]? = some (.int .u8 (zs.getD j 0)) := by
  simp [hj, List.getElem?_eq_getElem (show j < zs.length by omega)]

set_option maxHeartbeats 400000 in
theorem clone_any (b off len cap : Nat) (zs : List Int) (w : World) (h0 : 0 < len) (hm : len ≤ 1048576) (hz : len ≤ zs.length)
    (hc : ∀ j, j < len → w.cell? ⟨b, off + j, none⟩ = some (.int .u8 (zs.getD j 0))) :
    Calls Ybad.prog 4 #[.slice (some ⟨b, off, none⟩) len cap] w fun e w' => ∃ g cap', e = .returned (.slice (some ⟨g, 0, none⟩) len cap') ∧ (∀ j, j < len → w'.cell? ⟨g, j, none⟩ = some (.int .u8 (zs.getD j 0))) ∧ g < w'.heap.size ∧ Below w.heap.size w w' := by
  have hb : b < w.heap.size := block_lt_of_cell (hc 0 h0)
  have hne := fun wx => Lib.run_eql_slice_nil (P := Ybad.prog) wx 22 5 (some ⟨b, off, none⟩) len cap 0 0 Ybad.underlying22
  obtain ⟨i0, hi, hz0, hz1, hz2⟩ := info_parts info5
  go_enter Ybad.func4, Ybad.ntmps4
  have hown0 : (w.alloc (.cells #[] 5)).ownsRow w.heap.size 5 1 (.slice (some ⟨w.heap.size, 0, none⟩) 0 0) 0 [] := World.ownsRow_lit w #[] 0 (Nat.le_refl _) (by unfold maxLen; omega) rfl
  have hl : ((zs.take len).map (Value.int .u8)).length = len * 1 := by simp; omega
  have hnews : ∀ j u, ((zs.take len).map (Value.int .u8))[j]? = some u → (w.alloc (.cells #[] 5)).cell? ((⟨b, off, none⟩ : Addr).add j) = some u := by
    intro j u hj
    have hj2 : j < len := by have := (List.getElem?_eq_some_iff.1 hj).1; omega
    rw [u8_at zs len j hj2 hz] at hj
    rw [Addr.add_lit, ((Below.refl w.heap.size w).alloc (Nat.le_refl _) (.cells #[] 5)).cell (show b < w.heap.size from hb), hc j hj2, hj]
  have HC : Hid (∀ j, j < len → w.cell? ⟨b, off + j, none⟩ = some (.int .u8 (zs.getD j 0))) := hc
  clear hc
  go_wp2_with (first | (at_builtin; refine wpList_append_own _ rfl _ _ 22 rfl w.heap.size 5 i0 (.int .u8 0) 1 1 Ybad.underlying22 hi hz0 hz1 hz2 rfl (by decide) _ _ _ rfl hown0 ⟨b, off, none⟩ len cap _ rfl hl hnews (ints_oneCell _ _) (by unfold maxLen; omega) (by omega) (by simp) ?_; intro v' w1 hown hgrow _; fail_if_success exact trivial))
  rcases hown.2 with ⟨_, h'⟩ | ⟨g, cap', cur, hv, hg0, hg, _⟩
  · omega
  rw [hv] at hown
  rw [hv]
  have hB : Below w.heap.size w w1 := ((Below.refl _ _).alloc (Nat.le_refl _) _).grown hgrow (by simp) (fun k hk => by have hk2 : some w.heap.size = some k := hk; exact Nat.le_of_eq (Option.some.inj hk2))
  have hcell : ∀ j, j < len → w1.cell? ⟨g, j, none⟩ = some (.int .u8 (zs.getD j 0)) := fun j hj => by
    rw [Nat.zero_add] at hown
    exact (hown.cellAt j (by omega)).trans (by simpa using u8_at zs len j hj hz)
  have hlt := lt_of_block hg
  rw [Nat.zero_add]
  clear hown hgrow hg hnews hown0 hv
  go_wp2
  go_ret
  exact ⟨g, cap', rfl, hcell, hlt, hB⟩

set_option maxHeartbeats 400000 in
theorem equal_any (b off cap b' off' cap' len : Nat) (zs : List Int) (w : World) (hm : len ≤ 1048576)
    (hc : ∀ j, j < len → w.cell? ⟨b, off + j, none⟩ = some (.int .u8 (zs.getD j 0))) (hc' : ∀ j, j < len → w.cell? ⟨b', off' + j, none⟩ = some (.int .u8 (zs.getD j 0))) :
    Calls Ybad.prog 7 #[.slice (some ⟨b, off, none⟩) len cap, .slice (some ⟨b', off', none⟩) len cap'] w fun e w' => e = .returned (.bool true) ∧ ∃ n, w' = w.drewN n := by
  go_enter Ybad.func7, Ybad.ntmps7
  go_wp2
  go_loopw [13] (fun i wr => ∃ k : Nat, k ≤ len ∧ i = .int .i64 k ∧ Hid (∃ n, wr = w.drewN n)) (fun i _ => len - (intOf i).toNat)
  case atStart => exact ⟨0, Nat.zero_le _, rfl, 0, rfl⟩
  case round =>
    obtain ⟨k, hk, rfl, hn⟩ := hrel
    have hcw : ∀ p, wr.cell? p = w.cell? p := by obtain ⟨n, rfl⟩ := hn; intro p; rfl
    by_cases hlt : k < len
    · have g1 := (hcw _).trans (hc k hlt)
      have g2 := (hcw _).trans (hc' k hlt)
      clear hc hc' hcw
      go_wp2
      go_quiet (fail)
      go_wp2
      go_roundw
      case rel =>
        refine ⟨k + 1, by omega, by go_num, ?_⟩
        obtain ⟨n, rfl⟩ := hn
        exact ⟨_, by simp only [World.drewN_drewN]; rfl⟩
      case measure => simp [intOf]; omega
    · clear hcw
      go_wp2
      go_ret
      exact ⟨rfl, hn⟩
end Go.Proofs.YbulkdjhiDoor
