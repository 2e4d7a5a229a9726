import Derived.Test.YbulkdjhwRows
import Derived.Test.YbulkdjhwAPlain
import Derived.WalkKit
import Derived.WalkSpells
import Derived.BigQuiet
import Derived.Deep.QuietTactic
import Derived.Laws.CopyOwn
import Derived.Laws.ResultCell
namespace Go.Proofs.Ybulkdjhw.A
open Go.RowKit
set_option linter.unusedVariables false
theorem info21 : (Yba.prog.info? 21).map (fun i => (i.zero, i.size, i.bytes)) = some (some (.int .i32 0), 1, 4) := by kernel_rfl
theorem info3 : (Yba.prog.info? 3).map (fun i => (i.zero, i.size, i.bytes)) = some (some (.int .i64 0), 1, 8) := by kernel_rfl
theorem info24s : (Yba.prog.info? 24).map (·.size) = some 12 := by kernel_rfl
theorem ret_bool {a b : Bool} (h : a = b) : Ending.returned (.bool a) = .returned (.bool b) := by rw [h]

theorem cell_new_at {w : World} {v : Value} {t : TypeId} {n : Nat} (hn : w.heap.size = n) : ∀ j u, [v][j]? = some u → (w.alloc (.cells #[v] t)).cell? ((⟨n, 0, none⟩ : Addr).add j) = some u := by
  subst hn; exact cell_one_new w v t
abbrev RowR (w : World) (B : Nat) (v : Value) (L : List Int) : Prop := w.ownsRow B 21 1 v L.length (L.map (Value.int .i32))

def alphaV : Array Value := (alphaL.map (Value.int .i32)).toArray

theorem alpha_any (w : World) : Calls Yba.prog 5 #[] w fun e w' => e = .returned (.agg alphaV) ∧ Below w.heap.size w w' := by
  go_enter Yba.func5, Yba.ntmps5
  go_wp2
  exact bodyPost_ret (v := .agg alphaV) (results_cell_row rfl _ _ w.heap.size 24 alphaV (0, 0) _ rfl (heap_alloc_new w _) Yba.underlying24 rfl info24s) rfl ⟨rfl, (Below.refl _ _).alloc (Nat.le_refl _) _⟩

theorem hangul_any (r : Int) (w : World) (h0 : -2147483648 ≤ r) (h1 : r ≤ 2147483647) : Calls Yba.prog 7 #[.int .i32 r] w fun e w' => e = .returned (.bool (isH r)) ∧ w' = w := by
  by_cases a : 44032 ≤ r
  · go_enter Yba.func7, Yba.ntmps7
    go_wp2
    go_ret
    exact ⟨ret_bool (by rw [isH, decide_eq_true a, Bool.true_and, decide_eq_decide]; omega), rfl⟩
  · go_enter Yba.func7, Yba.ntmps7
    go_wp2
    go_ret
    exact ⟨ret_bool (by rw [isH, decide_eq_false (by omega), Bool.false_and]), rfl⟩

set_option maxHeartbeats 400000 in
theorem jamo_any (r : Int) (w : World) (h : isH r = true) : Calls Yba.prog 8 #[.int .i32 r] w fun e w' => ∃ g cap, e = .returned (.slice (some ⟨g, 0, none⟩) (jamoL r).length cap) ∧ RowR w' w.heap.size (.slice (some ⟨g, 0, none⟩) (jamoL r).length cap) (jamoL r) ∧ Below w.heap.size w w' := by
  obtain ⟨i0, hi, hz0, hz1, hz2⟩ := info_parts info21
  have hb : 44032 ≤ r ∧ r < 55204 := by unfold isH at h; simpa using h
  obtain ⟨hb0, hb1⟩ := hb
  have HJ : Hid (jamoL r = [4352 + (r - 44032) / 28 / 21, 4449 + (r - 44032) / 28 % 21] ++ (if (r - 44032) % 28 = 0 then [] else [4519 + (r - 44032) % 28])) := by
    show _ = _
    unfold jamoL
    rw [show (r - 44032) / 588 = (r - 44032) / 28 / 21 by omega, show (r - 44032) % 588 / 28 = (r - 44032) / 28 % 21 by omega]
  clear h
  by_cases ht : (r - 44032) % 28 = 0
  · have HL : Hid (jamoL r = [4352 + (r - 44032) / 28 / 21, 4449 + (r - 44032) / 28 % 21]) := by
      have := HJ.out; rw [if_pos ht] at this; exact this
    go_enter Yba.func8, Yba.ntmps8
    go_wp2
    go_ret
    refine ⟨w.heap.size, 2, by rw [HL.out]; rfl, ?_, (Below.refl _ _).alloc (Nat.le_refl _) _⟩
    rw [HL.out]
    exact World.ownsRow_lit w _ 2 (Nat.le_refl _) (by unfold maxLen; omega) rfl
  · have HL : Hid (jamoL r = [4352 + (r - 44032) / 28 / 21, 4449 + (r - 44032) / 28 % 21] ++ [4519 + (r - 44032) % 28]) := by
      have := HJ.out; rw [if_neg ht] at this; exact this
    have hown0 := World.ownsRow_lit (base := w.heap.size) (e := 21) (size := 1) w #[.int .i32 (4352 + (r - 44032) / 28 / 21), .int .i32 (4449 + (r - 44032) / 28 % 21)] 2 (Nat.le_refl _) (by unfold maxLen; omega) rfl
    go_enter Yba.func8, Yba.ntmps8
    go_wp2_with (at_builtin; go_must (refine wpList_append_own _ rfl _ _ 22 rfl w.heap.size 21 i0 (.int .i32 0) 1 4 Yba.underlying22 hi hz0 hz1 hz2 rfl (by decide) _ _ _ rfl (hown0.alloc _) ⟨_, 0, none⟩ 1 1 [.int .i32 (4519 + (r - 44032) % 28)] rfl rfl (cell_new_at (by simp)) (by intro u hu; simp at hu; subst hu; rfl) (by unfold maxLen; omega) (by omega) (by simp; omega) ?_); intro v' w1 hown hgrow _; clear hown0)
    rcases hown.2 with ⟨_, h'⟩ | ⟨g, cap', cur, hv, hg0, hg, _⟩
    · omega
    rw [hv] at hown ⊢
    have hB : Below w.heap.size w w1 := (((Below.refl _ _).alloc (Nat.le_refl _) _).alloc (by simp) _).grown hgrow (by simp; omega) (fun k hk => Nat.le_of_eq (Option.some.inj hk))
    clear hv hgrow hg
    go_wp2
    go_ret
    refine ⟨g, cap', by rw [HL.out]; rfl, ?_, hB⟩
    rw [HL.out]
    exact hown

set_option maxHeartbeats 400000 in
theorem clone_nil (w : World) : Calls Yba.prog 10 #[.slice none 0 0] w fun e w' => e = .returned (.slice none 0 0) ∧ w' = w := by
  have hne := fun wx => Lib.run_eql_slice_nil (P := Yba.prog) wx 22 21 none 0 0 0 0 Yba.underlying22
  go_enter Yba.func10, Yba.ntmps10
  go_wp2
  go_ret
  exact ⟨rfl, rfl⟩

theorem take_at (zs : List Int) (k : IntKind) (len j : Nat) (hj : j < len) (hz : len ≤ zs.length) : ((zs.take len).map (Value.int k))[j]? = some (.int k (zs.getD j 0)) := by
  simp [hj, List.getElem?_eq_getElem (show j < zs.length by omega)]

set_option maxHeartbeats 400000 in
theorem clone_some (x : Addr) (len cap : Nat) (zs : List Int) (w : World) (hm : len ≤ 1048576) (hz : len ≤ zs.length)
    (hc : ∀ j, j < len → w.cell? (x.add j) = some (.int .i32 (zs.getD j 0))) :
    Calls Yba.prog 10 #[.slice (some x) len cap] w fun e w' => ∃ g cap', e = .returned (.slice (some ⟨g, 0, none⟩) len cap') ∧ w'.ownsRow w.heap.size 21 1 (.slice (some ⟨g, 0, none⟩) len cap') len ((zs.take len).map (Value.int .i32)) ∧ Below w.heap.size w w' := by
  have hne := fun wx => Lib.run_eql_slice_nil (P := Yba.prog) wx 22 21 (some x) len cap 0 0 Yba.underlying22
  obtain ⟨i0, hi, hz0, hz1, hz2⟩ := info_parts info21
  have hown0 : (w.alloc (.cells #[] 21)).ownsRow w.heap.size 21 1 (.slice (some ⟨w.heap.size, 0, none⟩) 0 0) 0 [] := World.ownsRow_lit w #[] 0 (Nat.le_refl _) (by unfold maxLen; omega) rfl
  have hl : ((zs.take len).map (Value.int .i32)).length = len * 1 := by simp; omega
  have hnews : ∀ j u, ((zs.take len).map (Value.int .i32))[j]? = some u → (w.alloc (.cells #[] 21)).cell? (x.add j) = some u := by
    intro j u hj
    have hj2 : j < len := by have := (List.getElem?_eq_some_iff.1 hj).1; omega
    rw [take_at zs _ len j hj2 hz] at hj
    rw [((Below.refl w.heap.size w).alloc (Nat.le_refl _) (.cells #[] 21)).cell (block_lt_of_cell (hc j hj2)), hc j hj2, hj]
  clear hc
  go_enter Yba.func10, Yba.ntmps10
  go_wp2_with (first | (at_builtin; refine wpList_append_own _ rfl _ _ 22 rfl w.heap.size 21 i0 (.int .i32 0) 1 4 Yba.underlying22 hi hz0 hz1 hz2 rfl (by decide) _ _ _ rfl hown0 x len cap _ rfl hl hnews (ints_oneCell _ _) (by unfold maxLen; omega) (by omega) (by simp) ?_; intro v' w1 hown hgrow hnil))
  rcases hown.2 with ⟨h', _⟩ | ⟨g, cap', cur, hv, hg0, hg, _⟩
  · have := (hnil.1 h').1; cases this
  rw [hv] at hown
  rw [hv]
  have hB : Below w.heap.size w w1 := ((Below.refl _ _).alloc (Nat.le_refl _) _).grown hgrow (by simp) (fun k hk => by have hk2 : some w.heap.size = some k := hk; exact Nat.le_of_eq (Option.some.inj hk2))
  rw [Nat.zero_add] at hown ⊢
  clear hgrow hg hnews hown0 hv hnil
  go_wp2
  go_ret
  exact ⟨g, cap', rfl, by simpa using hown, hB⟩

set_option maxHeartbeats 400000 in
theorem equal_some (b off cap b' off' cap' len : Nat) (zs : List Int) (w : World) (hm : len ≤ 140737488355328)
    (hc : ∀ j, j < len → w.cell? ⟨b, off + j, none⟩ = some (.int .i32 (zs.getD j 0))) (hc' : ∀ j, j < len → w.cell? ⟨b', off' + j, none⟩ = some (.int .i32 (zs.getD j 0))) :
    Calls Yba.prog 12 #[.slice (some ⟨b, off, none⟩) len cap, .slice (some ⟨b', off', none⟩) len cap'] w fun e w' => e = .returned (.bool true) ∧ ∃ n, w' = w.drewN n := by
  go_enter Yba.func12, Yba.ntmps12
  go_wp2
  go_loopw [13] (fun i wr => ∃ k : Nat, k ≤ len ∧ i = .int .i64 k ∧ Hid (∃ n, wr = w.drewN n)) (fun i _ => len - (intOf i).toNat)
  case atStart => exact ⟨0, Nat.zero_le _, rfl, 0, rfl⟩
  case round =>
    obtain ⟨k, hk, rfl, hn⟩ := hrel
    have hcw : ∀ p, wr.cell? p = w.cell? p := by obtain ⟨n, rfl⟩ := hn; intro p; rfl
    by_cases hlt : k < len
    · have g1 := (hcw _).trans (hc k hlt)
      have g2 := (hcw _).trans (hc' k hlt)
      clear hc hc' hcw
      go_wp2
      go_quiet (fail)
      go_wp2
      go_roundw
      case rel =>
        refine ⟨k + 1, by omega, by go_num, ?_⟩
        obtain ⟨n, rfl⟩ := hn
        exact ⟨_, by simp only [World.drewN_drewN]; rfl⟩
      case measure => simp [intOf]; omega
    · clear hcw
      go_wp2
      go_ret
      exact ⟨rfl, hn⟩
theorem equal_zero (a a' : Option Addr) (cap cap' : Nat) (w : World) :
    Calls Yba.prog 12 #[.slice a 0 cap, .slice a' 0 cap'] w fun e w' => e = .returned (.bool true) ∧ ∃ n, w' = w.drewN n := by
  go_enter Yba.func12, Yba.ntmps12
  go_wp2
  refine wp_loop_rounds 1 ?_
  rw [rounds_succ]
  go_wp2
  go_ret
  exact ⟨rfl, 0, rfl⟩
theorem rowR_shape {w : World} {B : Nat} {v : Value} {L : List Int} (h : RowR w B v L) : ∃ a cap, v = .slice a L.length cap ∧ (0 < L.length → ∃ g, a = some ⟨g, 0, none⟩ ∧ B ≤ g ∧ g < w.heap.size ∧ ∀ j, j < L.length → w.cell? ⟨g, 0 + j, none⟩ = some (.int .i32 (L.getD j 0))) := by
  rcases h.2 with ⟨hv, h0⟩ | ⟨g, cap, cur, hv, hb, hg, _⟩
  · exact ⟨none, 0, by rw [hv, h0], fun h => by omega⟩
  · refine ⟨_, cap, hv, fun _ => ⟨g, rfl, hb, lt_of_block hg, fun j hj => ?_⟩⟩
    rw [hv] at h
    rw [Nat.zero_add, h.cellAt j (by omega)]
    simp [List.getElem?_eq_getElem hj]
theorem equal_rows (v v' : Value) (L : List Int) (B B' : Nat) (w : World) (h : RowR w B v L) (h' : RowR w B' v' L) (hm : L.length ≤ 140737488355328) :
    Calls Yba.prog 12 #[v, v'] w fun e w' => e = .returned (.bool true) ∧ ∃ n, w' = w.drewN n := by
  obtain ⟨a, cap, rfl, ha⟩ := rowR_shape h
  obtain ⟨a', cap', rfl, ha'⟩ := rowR_shape h'
  by_cases h0 : L.length = 0
  · rw [h0]; exact equal_zero a a' cap cap' w
  · obtain ⟨g, rfl, _, _, hc⟩ := ha (by omega)
    obtain ⟨g', rfl, _, _, hc'⟩ := ha' (by omega)
    exact equal_some g 0 cap g' 0 cap' L.length L w hm hc hc'
end Go.Proofs.Ybulkdjhw.A
