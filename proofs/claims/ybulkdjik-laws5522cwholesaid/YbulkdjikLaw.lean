import Derived.Test.YbulkdjikModel
import Derived.WalkKit
import Derived.WalkSpells
import Derived.BigQuiet
import Derived.Deep.QuietTactic
import Derived.Laws.CopyOwn
import Derived.Laws.IdiomStrings
import Derived.Lib.Builder
namespace Go.Proofs.Ybulkdjik
open Go.RowKit
set_option linter.unusedVariables false
theorem law_big (sep : ByteArray) (size : Int) (a : Option Addr) (len cap : Nat) (w : World) (h : (1048576 : Int) < (len : Int)) :
    Calls Yba.prog 3 #[.string sep, .int .i64 size, .slice a len cap] w fun e w' => e = .returned (.bool true) ∧ Below w.heap.size w w' := by
  go_enter Yba.func3, Yba.ntmps3
  go_wp2
  go_ret
  exact ⟨rfl, Below.refl _ _⟩
theorem law_bigs (sep : ByteArray) (size : Int) (a : Option Addr) (len cap : Nat) (w : World) (hl : len ≤ 1048576) (h : (1048576 : Int) < (sep.size : Int)) (hs : sep.size ≤ 9223372036854775807) :
    Calls Yba.prog 3 #[.string sep, .int .i64 size, .slice a len cap] w fun e w' => e = .returned (.bool true) ∧ Below w.heap.size w w' := by
  have hd : decide ((1048576 : Int) < (len : Int)) = false := decide_eq_false (by omega)
  go_enter Yba.func3, Yba.ntmps3
  go_wp2
  go_ret
  exact ⟨rfl, Below.refl _ _⟩


theorem own_block {w : World} {base g n : Nat} {xs : List Value} (h : w.ownsRow base 5 1 (.slice (some ⟨g, 0, none⟩) n n) n xs) : w.heap[g]? = some (.cells xs.toArray 5 (0, 0)) := by
  rcases h.2 with ⟨h', _⟩ | ⟨g', cap', cur, h', _, hg, _, _, hs, htake⟩
  · simp at h'
  · simp only [Value.slice.injEq, Option.some.injEq, Addr.mk.injEq, and_true, true_and] at h'
    obtain ⟨rfl, rfl⟩ := h'
    rw [hg, ← htake, List.take_of_length_le (by simp; omega)]
theorem g_cells {w w' : World} {v0 v1 : Value} (h : Below (w.heap.size + 1) (w.alloc (.cells #[v0, v1] 24)) w') : w'.cell? ⟨w.heap.size, 0, none⟩ = some v0 ∧ w'.cell? ⟨w.heap.size, 1, none⟩ = some v1 :=
  ⟨(h.cell (p := ⟨w.heap.size, 0, none⟩) (Nat.lt_succ_self _)).trans (by simp), (h.cell (p := ⟨w.heap.size, 1, none⟩) (Nat.lt_succ_self _)).trans (by simp)⟩
theorem info5s : (Yba.prog.info? 5).map (·.size) = some 1 := by kernel_rfl
theorem set_all (zs : List Int) (len : Nat) (hz : len ≤ zs.length) : ((zs.take len).map (Value.int .u8)).length = len := by simp; omega
theorem keep_at (zs : List Int) (len j : Nat) (hj : j < len) (hz : len ≤ zs.length) : ((zs.take len).map (Value.int .u8))[j]? = some (.int .u8 (zs.getD j 0)) := by
  simp [hj, List.getElem?_eq_getElem (show j < zs.length by omega)]

theorem copy_step {b off len cap n : Nat} {zs : List Int} {w w1 : World} {xs : List Value} (hz : len ≤ zs.length) (hb : b < w.heap.size) (hn : w.heap.size = n)
    (hc : ∀ i, i < len → w.cell? ⟨b, off + i, none⟩ = some (.int .u8 (zs.getD i 0)))
    (hown : w1.ownsRow n 5 1 (.slice (some ⟨n, 0, none⟩) len len) len xs) (hgrow : w.grownBy w1 none) :
    ∃ w2, (∀ ty, (Builtin.copy_ #[22, 22] ty #[.slice (some ⟨n, 0, none⟩) len len, .slice (some ⟨b, off, none⟩) len cap]).run Yba.prog w1 = .ok (goInt len) w2) ∧
      (∀ j, j < len → w2.cell? ⟨n, j, none⟩ = some (.int .u8 (zs.getD j 0))) ∧ Below n w w2 ∧ n < w2.heap.size := by
  subst hn
  have hB1 : Below w.heap.size w w1 := (Below.refl _ _).grown hgrow (Nat.le_refl _) (by simp)
  have hblk := own_block hown
  have hxs : xs.length = len := by have := hown.1; omega
  have hc1 : ∀ j, j < len → w1.cell? ⟨b, off + j, none⟩ = some (.int .u8 (zs.getD j 0)) := fun j hj => (hB1.cell (by exact hb)).trans (hc j (by omega))
  have hcp := fun ty => run_copy_row Yba.prog w1 22 22 ty 5 w.heap.size 0 len len ⟨b, off, none⟩ len cap _ 5 ((zs.take len).map (Value.int .u8)) Yba.underlying22 info5s hblk (by rw [set_all zs len (by omega)]; simp)
    (by
      intro j v hj
      have hj2 : j < len := by
        have := (List.getElem?_eq_some_iff.1 hj).1
        rwa [set_all zs len (by omega)] at this
      rw [keep_at zs len j hj2 (by omega)] at hj
      rw [Addr.add_lit, hc1 j hj2, hj])
    (by rw [set_all zs len (by omega)]; simp; omega) (ints_oneCell _ _)
  have hrow := setRow_heap w1 w.heap.size _ ((zs.take len).map (Value.int .u8)).toArray 5 _ hblk
  have hB2' := below_setRow hB1 (Nat.le_refl _) ((zs.take len).map (Value.int .u8)).toArray
  have hcel : (xs.toArray.toList.take 0 ++ (zs.take len).map (Value.int .u8) ++ xs.toArray.toList.drop (0 + ((zs.take len).map (Value.int .u8)).length)).toArray = ((zs.take len).map (Value.int .u8)).toArray := by
    rw [set_all zs len hz]; simp [List.drop_eq_nil_of_le (show xs.length ≤ len by omega)]
  rw [hcel, set_all zs len hz] at hcp
  refine ⟨_, hcp, ?_, hB2', ?_⟩
  · intro j hj
    rw [cell_of_row _ _ j _ 5 (0, 0) hrow, List.getElem?_toArray, keep_at zs len j hj hz]
  · exact lt_of_block hrow

set_option maxHeartbeats 800000 in
theorem law_nilA (sep : ByteArray) (size : Int) (w : World) (hsep : sep.toList.isEmpty = false) (hsz : 0 < sep.size) (hs : sep.size ≤ 1048576) (hlo : -9223372036854775808 ≤ size ∧ size ≤ 9223372036854775807) :
    Calls Yba.prog 3 #[.string sep, .int .i64 size, .slice none 0 0] w fun e w' => e = .returned (.bool true) ∧ Below w.heap.size w w' := by
  have hne := fun wx => run_neq_slice_nil_any (P := Yba.prog) wx 22 5 none 0 0 0 0 Yba.underlying22
  have heq := fun wx => Lib.run_eql_slice_nil (P := Yba.prog) wx 22 5 none 0 0 0 0 Yba.underlying22
  go_enter Yba.func3, Yba.ntmps3
  go_wp2_with fail
  refine (write_all none 0 0 [] sep size _ (by simp) (by omega) (by simp) hlo (fun _ => hsz) (.inl ⟨rfl, rfl⟩)).mono ?_
  rintro e w1 ⟨rfl, hB1⟩
  go_wp2_with fail
  refine (model_all none 0 0 [] sep size _ (by simp) (by omega) (by simp) hlo (fun _ => hsz) (.inl ⟨rfl, rfl⟩)).mono ?_
  rintro e w2 ⟨rfl, hB2⟩
  generalize resS sep size [] 0 = R
  have hB : Below w.heap.size w w2 := ((Below.refl _ _).alloc (Nat.le_refl _) _).trans ((hB1.mono (by simp)).trans (hB2.mono (by have := hB1.size; simp at this; omega)))
  clear hB1 hB2
  go_wp2
  refine wp_loop_rounds 1 ?_
  rw [rounds_succ]
  go_wp2
  go_ret
  exact ⟨rfl, hB⟩

set_option maxHeartbeats 800000 in
theorem law_zeroA (x : Addr) (cap : Nat) (sep : ByteArray) (size : Int) (w : World) (hsep : sep.toList.isEmpty = false) (hsz : 0 < sep.size) (hs : sep.size ≤ 1048576) (hlo : -9223372036854775808 ≤ size ∧ size ≤ 9223372036854775807) :
    Calls Yba.prog 3 #[.string sep, .int .i64 size, .slice (some x) 0 cap] w fun e w' => e = .returned (.bool true) ∧ Below w.heap.size w w' := by
  have hne := fun wx => run_neq_slice_nil_any (P := Yba.prog) wx 22 5 (some x) 0 cap 0 0 Yba.underlying22
  have heq := fun wx => Lib.run_eql_slice_nil (P := Yba.prog) wx 22 5 (some x) 0 cap 0 0 Yba.underlying22
  have heq2 := fun wx => Lib.run_eql_slice_nil (P := Yba.prog) wx 22 5 (some ⟨w.heap.size + 1, 0, none⟩) 0 0 0 0 Yba.underlying22
  obtain ⟨i0, hi, hz0, hz1, hz2⟩ := info_parts info5
  have hcp := fun wx ty => run_copy_none (P := Yba.prog) wx 22 22 ty 5 (some ⟨w.heap.size + 1, 0, none⟩) (some x) 0 0 0 cap Yba.underlying22 info5s (by decide)
  go_enter Yba.func3, Yba.ntmps3
  go_wp2_with (first | (at_make; refine wpList_make_full _ rfl _ _ 22 rfl (w.heap.size + 1) 5 i0 _ 1 Yba.underlying22 hi hz0 hz1 _ _ _ _ 0 rfl rfl rfl rfl (by omega) (by unfold maxLen; omega) (by simp) ?_; intro w1 hown hgrow; clear hown; obtain ⟨g0, g1⟩ := g_cells ((Below.refl (w.heap.size + 1) _).grown hgrow (by simp) (by simp))) | fail)
  have hB0 : Below w.heap.size w w1 := ((Below.refl _ _).alloc (Nat.le_refl _) _).grown hgrow (by simp) (by simp)
  refine (write_all (some x) cap 0 [] sep size _ (by simp) (by omega) (by simp) hlo (fun _ => hsz) (.inr (.inl ⟨rfl, by simp⟩))).mono ?_
  rintro e w2 ⟨rfl, hB1⟩
  go_wp2_with fail
  refine (model_all (some ⟨w.heap.size + 1, 0, none⟩) 0 0 [] sep size _ (by simp) (by omega) (by simp) hlo (fun _ => hsz) (.inr (.inl ⟨rfl, by simp⟩))).mono ?_
  rintro e w3 ⟨rfl, hB2⟩
  generalize resS sep size [] 0 = R
  have hB : Below w.heap.size w w3 := hB0.trans ((hB1.mono hB0.size).trans (hB2.mono (Nat.le_trans hB0.size hB1.size)))
  clear hB1 hB2 hB0 hgrow hcp g0 g1
  go_wp2
  refine wp_loop_rounds 1 ?_
  rw [rounds_succ]
  go_wp2
  go_ret
  exact ⟨rfl, hB⟩

set_option maxHeartbeats 800000 in
theorem law_someA (b off len cap : Nat) (zs : List Int) (sep : ByteArray) (size : Int) (w : World) (hsep : sep.toList.isEmpty = false) (hsz : 0 < sep.size) (hs : sep.size ≤ 1048576) (hlo : -9223372036854775808 ≤ size ∧ size ≤ 9223372036854775807) (h0 : 0 < len) (hm : len ≤ 1048576) (hz : len ≤ zs.length)
    (hc : ∀ j, j < len → w.cell? ⟨b, off + j, none⟩ = some (.int .u8 (zs.getD j 0))) (hr : ∀ j : Nat, 0 ≤ zs[j]?.getD 0 ∧ zs[j]?.getD 0 ≤ 255) :
    Calls Yba.prog 3 #[.string sep, .int .i64 size, .slice (some ⟨b, off, none⟩) len cap] w fun e w' => e = .returned (.bool true) ∧ Below w.heap.size w w' := by
  have hb : b < w.heap.size := block_lt_of_cell (hc 0 h0)
  have hd : decide ((1048576 : Int) < (len : Int)) = false := decide_eq_false (by omega)
  have hne := fun wx => run_neq_slice_nil_any (P := Yba.prog) wx 22 5 (some ⟨b, off, none⟩) len cap 0 0 Yba.underlying22
  have heq := fun wx => Lib.run_eql_slice_nil (P := Yba.prog) wx 22 5 (some ⟨b, off, none⟩) len cap 0 0 Yba.underlying22
  have heq2 := fun wx => Lib.run_eql_slice_nil (P := Yba.prog) wx 22 5 (some ⟨w.heap.size + 1, 0, none⟩) len len 0 0 Yba.underlying22
  obtain ⟨i0, hi, hz0, hz1, hz2⟩ := info_parts info5
  have HC : Hid (∀ j, j < len → w.cell? ⟨b, off + j, none⟩ = some (.int .u8 (zs.getD j 0))) := hc
  have HA : Hid (∀ o : Obj, ∀ j, j < len → (w.alloc o).cell? ⟨b, off + j, none⟩ = some (.int .u8 (zs.getD j 0))) := fun o j hj =>
    (((Below.refl w.heap.size w).alloc (Nat.le_refl _) o).cell (show b < w.heap.size from hb)).trans (hc j hj)
  clear hc
  go_enter Yba.func3, Yba.ntmps3
  go_wp2_with (first | (at_make; refine wpList_make_full _ rfl _ _ 22 rfl (w.heap.size + 1) 5 i0 _ 1 Yba.underlying22 hi hz0 hz1 _ _ _ _ len rfl rfl rfl rfl (by rw [hz2]; omega) (by unfold maxLen; omega) (by simp) ?_; intro w1 hown hgrow; simp only [World.size_alloc] at hown; obtain ⟨w2, hcp, hk2, hB2, hs2⟩ := copy_step (cap := cap) hz (by simp; omega) (World.size_alloc _ _) (HA.out _) hown hgrow; have HK2 : Hid (∀ j, j < len → w2.cell? ⟨w.heap.size + 1, j, none⟩ = some (.int .u8 (zs.getD j 0))) := hk2; clear hown hgrow hk2; obtain ⟨g0, g1⟩ := g_cells hB2) | fail)
  have hB0 : Below w.heap.size w w2 := ((Below.refl _ _).alloc (Nat.le_refl _) _).trans (hB2.mono (by omega))
  have hcw : ∀ {wx : World}, Below w.heap.size w wx → ∀ j, j < len → wx.cell? ⟨b, off + j, none⟩ = some (.int .u8 (zs.getD j 0)) := fun h j hj => (h.cell (show b < w.heap.size from hb)).trans (HC.out j hj)
  refine (write_all (some ⟨b, off, none⟩) cap len zs sep size _ hz hm hr hlo (fun _ => hsz) (.inr (.inr ⟨h0, b, off, rfl, hcw hB0⟩))).mono ?_
  rintro e w3 ⟨rfl, hB3⟩
  have hk3 : Hid (∀ j, j < len → w3.cell? ⟨w.heap.size + 1, 0 + j, none⟩ = some (.int .u8 (zs.getD j 0))) := fun j hj => by
    rw [Nat.zero_add]; exact (hB3.cell (by exact hs2)).trans (HK2.out j hj)
  have hB03 : Below w.heap.size w w3 := hB0.trans (hB3.mono hB0.size)
  have HW : Hid (∀ {wx : World}, Below w.heap.size w wx → ∀ j, j < len → wx.cell? ⟨b, off + j, none⟩ = some (.int .u8 (zs.getD j 0))) := hcw
  clear hcp hB2 hcw HK2 g0 g1
  go_wp2_with fail
  refine (model_all (some ⟨w.heap.size + 1, 0, none⟩) len len zs sep size _ hz hm hr hlo (fun _ => hsz) (.inr (.inr ⟨h0, _, 0, rfl, hk3.out⟩))).mono ?_
  rintro e w4 ⟨rfl, hB4⟩
  have hB : Below w.heap.size w w4 := hB03.trans (hB4.mono hB03.size)
  have hk4 : Hid (∀ j, j < len → w4.cell? ⟨w.heap.size + 1, j, none⟩ = some (.int .u8 (zs.getD j 0))) := fun j hj => by
    have := hk3.out j hj
    rw [Nat.zero_add] at this
    exact (hB4.cell (p := ⟨w.heap.size + 1, j, none⟩) (Nat.lt_of_lt_of_le hs2 hB3.size)).trans this
  have hc4 : Hid (∀ j, j < len → w4.cell? ⟨b, off + j, none⟩ = some (.int .u8 (zs.getD j 0))) := HW.out hB
  generalize resS sep size zs len = R
  clear hB0 hB3 hB4 hB03 hk3 HW HA HC
  go_wp2
  go_loopw [11] (fun i wr => ∃ k : Nat, k ≤ len ∧ i = .int .i64 k ∧ Hid (∃ n, wr = w4.drewN n)) (fun i _ => len - (intOf i).toNat)
  case atStart => exact ⟨0, Nat.zero_le _, rfl, 0, rfl⟩
  case round =>
    obtain ⟨k, hk, rfl, hn⟩ := hrel
    have hcx : ∀ p, wr.cell? p = w4.cell? p := by obtain ⟨n, rfl⟩ := hn; intro p; rfl
    by_cases hlt : k < len
    · have g1 := (hcx _).trans (hk4.out k hlt)
      have g2 := (hcx _).trans (hc4.out k hlt)
      clear hcx
      go_wp2
      go_quiet (fail)
      go_wp2
      go_roundw
      case rel =>
        refine ⟨k + 1, by omega, by go_num, ?_⟩
        obtain ⟨n, rfl⟩ := hn
        exact ⟨_, by simp only [World.drewN_drewN]; rfl⟩
      case measure => simp [intOf]; omega
    · clear hcx
      go_wp2
      go_ret
      refine ⟨rfl, ?_⟩
      obtain ⟨n, rfl⟩ := hn
      exact hB.trans ⟨rfl, rfl, rfl, Nat.le_refl _, fun _ _ => rfl⟩

set_option maxHeartbeats 800000 in
theorem law_nilB (size : Int) (w : World) (hnz : (size != 0) = true) (hlo : -9223372036854775808 ≤ size ∧ size ≤ 9223372036854775807) :
    Calls Yba.prog 3 #[.string { data := #[] }, .int .i64 size, .slice none 0 0] w fun e w' => e = .returned (.bool true) ∧ Below w.heap.size w w' := by
  have hne := fun wx => run_neq_slice_nil_any (P := Yba.prog) wx 22 5 none 0 0 0 0 Yba.underlying22
  have heq := fun wx => Lib.run_eql_slice_nil (P := Yba.prog) wx 22 5 none 0 0 0 0 Yba.underlying22
  go_enter Yba.func3, Yba.ntmps3
  go_wp2_with fail
  refine (write_all none 0 0 [] ({ data := #[45] } : ByteArray) size _ (by simp) (by omega) (by simp) hlo (fun _ => (by decide)) (.inl ⟨rfl, rfl⟩)).mono ?_
  rintro e w1 ⟨rfl, hB1⟩
  go_wp2_with fail
  refine (model_all none 0 0 [] ({ data := #[45] } : ByteArray) size _ (by simp) (by omega) (by simp) hlo (fun _ => (by decide)) (.inl ⟨rfl, rfl⟩)).mono ?_
  rintro e w2 ⟨rfl, hB2⟩
  generalize resS ({ data := #[45] } : ByteArray) size [] 0 = R
  have hB : Below w.heap.size w w2 := ((Below.refl _ _).alloc (Nat.le_refl _) _).trans ((hB1.mono (by simp)).trans (hB2.mono (by have := hB1.size; simp at this; omega)))
  clear hB1 hB2
  go_wp2
  refine wp_loop_rounds 1 ?_
  rw [rounds_succ]
  go_wp2
  go_ret
  exact ⟨rfl, hB⟩

set_option maxHeartbeats 800000 in
theorem law_zeroB (x : Addr) (cap : Nat) (size : Int) (w : World) (hnz : (size != 0) = true) (hlo : -9223372036854775808 ≤ size ∧ size ≤ 9223372036854775807) :
    Calls Yba.prog 3 #[.string { data := #[] }, .int .i64 size, .slice (some x) 0 cap] w fun e w' => e = .returned (.bool true) ∧ Below w.heap.size w w' := by
  have hne := fun wx => run_neq_slice_nil_any (P := Yba.prog) wx 22 5 (some x) 0 cap 0 0 Yba.underlying22
  have heq := fun wx => Lib.run_eql_slice_nil (P := Yba.prog) wx 22 5 (some x) 0 cap 0 0 Yba.underlying22
  have heq2 := fun wx => Lib.run_eql_slice_nil (P := Yba.prog) wx 22 5 (some ⟨w.heap.size + 1, 0, none⟩) 0 0 0 0 Yba.underlying22
  obtain ⟨i0, hi, hz0, hz1, hz2⟩ := info_parts info5
  have hcp := fun wx ty => run_copy_none (P := Yba.prog) wx 22 22 ty 5 (some ⟨w.heap.size + 1, 0, none⟩) (some x) 0 0 0 cap Yba.underlying22 info5s (by decide)
  go_enter Yba.func3, Yba.ntmps3
  go_wp2_with (first | (at_make; refine wpList_make_full _ rfl _ _ 22 rfl (w.heap.size + 1) 5 i0 _ 1 Yba.underlying22 hi hz0 hz1 _ _ _ _ 0 rfl rfl rfl rfl (by omega) (by unfold maxLen; omega) (by simp) ?_; intro w1 hown hgrow; clear hown; obtain ⟨g0, g1⟩ := g_cells ((Below.refl (w.heap.size + 1) _).grown hgrow (by simp) (by simp))) | fail)
  have hB0 : Below w.heap.size w w1 := ((Below.refl _ _).alloc (Nat.le_refl _) _).grown hgrow (by simp) (by simp)
  refine (write_all (some x) cap 0 [] ({ data := #[45] } : ByteArray) size _ (by simp) (by omega) (by simp) hlo (fun _ => (by decide)) (.inr (.inl ⟨rfl, by simp⟩))).mono ?_
  rintro e w2 ⟨rfl, hB1⟩
  go_wp2_with fail
  refine (model_all (some ⟨w.heap.size + 1, 0, none⟩) 0 0 [] ({ data := #[45] } : ByteArray) size _ (by simp) (by omega) (by simp) hlo (fun _ => (by decide)) (.inr (.inl ⟨rfl, by simp⟩))).mono ?_
  rintro e w3 ⟨rfl, hB2⟩
  generalize resS ({ data := #[45] } : ByteArray) size [] 0 = R
  have hB : Below w.heap.size w w3 := hB0.trans ((hB1.mono hB0.size).trans (hB2.mono (Nat.le_trans hB0.size hB1.size)))
  clear hB1 hB2 hB0 hgrow hcp g0 g1
  go_wp2
  refine wp_loop_rounds 1 ?_
  rw [rounds_succ]
  go_wp2
  go_ret
  exact ⟨rfl, hB⟩

set_option maxHeartbeats 800000 in
theorem law_someB (b off len cap : Nat) (zs : List Int) (size : Int) (w : World) (hnz : (size != 0) = true) (hlo : -9223372036854775808 ≤ size ∧ size ≤ 9223372036854775807) (h0 : 0 < len) (hm : len ≤ 1048576) (hz : len ≤ zs.length)
    (hc : ∀ j, j < len → w.cell? ⟨b, off + j, none⟩ = some (.int .u8 (zs.getD j 0))) (hr : ∀ j : Nat, 0 ≤ zs[j]?.getD 0 ∧ zs[j]?.getD 0 ≤ 255) :
    Calls Yba.prog 3 #[.string { data := #[] }, .int .i64 size, .slice (some ⟨b, off, none⟩) len cap] w fun e w' => e = .returned (.bool true) ∧ Below w.heap.size w w' := by
  have hb : b < w.heap.size := block_lt_of_cell (hc 0 h0)
  have hd : decide ((1048576 : Int) < (len : Int)) = false := decide_eq_false (by omega)
  have hne := fun wx => run_neq_slice_nil_any (P := Yba.prog) wx 22 5 (some ⟨b, off, none⟩) len cap 0 0 Yba.underlying22
  have heq := fun wx => Lib.run_eql_slice_nil (P := Yba.prog) wx 22 5 (some ⟨b, off, none⟩) len cap 0 0 Yba.underlying22
  have heq2 := fun wx => Lib.run_eql_slice_nil (P := Yba.prog) wx 22 5 (some ⟨w.heap.size + 1, 0, none⟩) len len 0 0 Yba.underlying22
  obtain ⟨i0, hi, hz0, hz1, hz2⟩ := info_parts info5
  have HC : Hid (∀ j, j < len → w.cell? ⟨b, off + j, none⟩ = some (.int .u8 (zs.getD j 0))) := hc
  have HA : Hid (∀ o : Obj, ∀ j, j < len → (w.alloc o).cell? ⟨b, off + j, none⟩ = some (.int .u8 (zs.getD j 0))) := fun o j hj =>
    (((Below.refl w.heap.size w).alloc (Nat.le_refl _) o).cell (show b < w.heap.size from hb)).trans (hc j hj)
  clear hc
  go_enter Yba.func3, Yba.ntmps3
  go_wp2_with (first | (at_make; refine wpList_make_full _ rfl _ _ 22 rfl (w.heap.size + 1) 5 i0 _ 1 Yba.underlying22 hi hz0 hz1 _ _ _ _ len rfl rfl rfl rfl (by rw [hz2]; omega) (by unfold maxLen; omega) (by simp) ?_; intro w1 hown hgrow; simp only [World.size_alloc] at hown; obtain ⟨w2, hcp, hk2, hB2, hs2⟩ := copy_step (cap := cap) hz (by simp; omega) (World.size_alloc _ _) (HA.out _) hown hgrow; have HK2 : Hid (∀ j, j < len → w2.cell? ⟨w.heap.size + 1, j, none⟩ = some (.int .u8 (zs.getD j 0))) := hk2; clear hown hgrow hk2; obtain ⟨g0, g1⟩ := g_cells hB2) | fail)
  have hB0 : Below w.heap.size w w2 := ((Below.refl _ _).alloc (Nat.le_refl _) _).trans (hB2.mono (by omega))
  have hcw : ∀ {wx : World}, Below w.heap.size w wx → ∀ j, j < len → wx.cell? ⟨b, off + j, none⟩ = some (.int .u8 (zs.getD j 0)) := fun h j hj => (h.cell (show b < w.heap.size from hb)).trans (HC.out j hj)
  refine (write_all (some ⟨b, off, none⟩) cap len zs ({ data := #[45] } : ByteArray) size _ hz hm hr hlo (fun _ => (by decide)) (.inr (.inr ⟨h0, b, off, rfl, hcw hB0⟩))).mono ?_
  rintro e w3 ⟨rfl, hB3⟩
  have hk3 : Hid (∀ j, j < len → w3.cell? ⟨w.heap.size + 1, 0 + j, none⟩ = some (.int .u8 (zs.getD j 0))) := fun j hj => by
    rw [Nat.zero_add]; exact (hB3.cell (by exact hs2)).trans (HK2.out j hj)
  have hB03 : Below w.heap.size w w3 := hB0.trans (hB3.mono hB0.size)
  have HW : Hid (∀ {wx : World}, Below w.heap.size w wx → ∀ j, j < len → wx.cell? ⟨b, off + j, none⟩ = some (.int .u8 (zs.getD j 0))) := hcw
  clear hcp hB2 hcw HK2 g0 g1
  go_wp2_with fail
  refine (model_all (some ⟨w.heap.size + 1, 0, none⟩) len len zs ({ data := #[45] } : ByteArray) size _ hz hm hr hlo (fun _ => (by decide)) (.inr (.inr ⟨h0, _, 0, rfl, hk3.out⟩))).mono ?_
  rintro e w4 ⟨rfl, hB4⟩
  have hB : Below w.heap.size w w4 := hB03.trans (hB4.mono hB03.size)
  have hk4 : Hid (∀ j, j < len → w4.cell? ⟨w.heap.size + 1, j, none⟩ = some (.int .u8 (zs.getD j 0))) := fun j hj => by
    have := hk3.out j hj
    rw [Nat.zero_add] at this
    exact (hB4.cell (p := ⟨w.heap.size + 1, j, none⟩) (Nat.lt_of_lt_of_le hs2 hB3.size)).trans this
  have hc4 : Hid (∀ j, j < len → w4.cell? ⟨b, off + j, none⟩ = some (.int .u8 (zs.getD j 0))) := HW.out hB
  generalize resS ({ data := #[45] } : ByteArray) size zs len = R
  clear hB0 hB3 hB4 hB03 hk3 HW HA HC
  go_wp2
  go_loopw [11] (fun i wr => ∃ k : Nat, k ≤ len ∧ i = .int .i64 k ∧ Hid (∃ n, wr = w4.drewN n)) (fun i _ => len - (intOf i).toNat)
  case atStart => exact ⟨0, Nat.zero_le _, rfl, 0, rfl⟩
  case round =>
    obtain ⟨k, hk, rfl, hn⟩ := hrel
    have hcx : ∀ p, wr.cell? p = w4.cell? p := by obtain ⟨n, rfl⟩ := hn; intro p; rfl
    by_cases hlt : k < len
    · have g1 := (hcx _).trans (hk4.out k hlt)
      have g2 := (hcx _).trans (hc4.out k hlt)
      clear hcx
      go_wp2
      go_quiet (fail)
      go_wp2
      go_roundw
      case rel =>
        refine ⟨k + 1, by omega, by go_num, ?_⟩
        obtain ⟨n, rfl⟩ := hn
        exact ⟨_, by simp only [World.drewN_drewN]; rfl⟩
      case measure => simp [intOf]; omega
    · clear hcx
      go_wp2
      go_ret
      refine ⟨rfl, ?_⟩
      obtain ⟨n, rfl⟩ := hn
      exact hB.trans ⟨rfl, rfl, rfl, Nat.le_refl _, fun _ _ => rfl⟩

set_option maxHeartbeats 800000 in
theorem law_nilC  (w : World)   :
    Calls Yba.prog 3 #[.string { data := #[] }, .int .i64 0, .slice none 0 0] w fun e w' => e = .returned (.bool true) ∧ Below w.heap.size w w' := by
  have hne := fun wx => run_neq_slice_nil_any (P := Yba.prog) wx 22 5 none 0 0 0 0 Yba.underlying22
  have heq := fun wx => Lib.run_eql_slice_nil (P := Yba.prog) wx 22 5 none 0 0 0 0 Yba.underlying22
  go_enter Yba.func3, Yba.ntmps3
  go_wp2_with fail
  refine (write_all none 0 0 [] ({ data := #[] } : ByteArray) 0 _ (by simp) (by omega) (by simp) (by omega) (fun h => absurd rfl h) (.inl ⟨rfl, rfl⟩)).mono ?_
  rintro e w1 ⟨rfl, hB1⟩
  go_wp2_with fail
  refine (model_all none 0 0 [] ({ data := #[] } : ByteArray) 0 _ (by simp) (by omega) (by simp) (by omega) (fun h => absurd rfl h) (.inl ⟨rfl, rfl⟩)).mono ?_
  rintro e w2 ⟨rfl, hB2⟩
  generalize resS ({ data := #[] } : ByteArray) 0 [] 0 = R
  have hB : Below w.heap.size w w2 := ((Below.refl _ _).alloc (Nat.le_refl _) _).trans ((hB1.mono (by simp)).trans (hB2.mono (by have := hB1.size; simp at this; omega)))
  clear hB1 hB2
  go_wp2
  refine wp_loop_rounds 1 ?_
  rw [rounds_succ]
  go_wp2
  go_ret
  exact ⟨rfl, hB⟩

set_option maxHeartbeats 800000 in
theorem law_zeroC (x : Addr) (cap : Nat)  (w : World)   :
    Calls Yba.prog 3 #[.string { data := #[] }, .int .i64 0, .slice (some x) 0 cap] w fun e w' => e = .returned (.bool true) ∧ Below w.heap.size w w' := by
  have hne := fun wx => run_neq_slice_nil_any (P := Yba.prog) wx 22 5 (some x) 0 cap 0 0 Yba.underlying22
  have heq := fun wx => Lib.run_eql_slice_nil (P := Yba.prog) wx 22 5 (some x) 0 cap 0 0 Yba.underlying22
  have heq2 := fun wx => Lib.run_eql_slice_nil (P := Yba.prog) wx 22 5 (some ⟨w.heap.size + 1, 0, none⟩) 0 0 0 0 Yba.underlying22
  obtain ⟨i0, hi, hz0, hz1, hz2⟩ := info_parts info5
  have hcp := fun wx ty => run_copy_none (P := Yba.prog) wx 22 22 ty 5 (some ⟨w.heap.size + 1, 0, none⟩) (some x) 0 0 0 cap Yba.underlying22 info5s (by decide)
  go_enter Yba.func3, Yba.ntmps3
  go_wp2_with (first | (at_make; refine wpList_make_full _ rfl _ _ 22 rfl (w.heap.size + 1) 5 i0 _ 1 Yba.underlying22 hi hz0 hz1 _ _ _ _ 0 rfl rfl rfl rfl (by omega) (by unfold maxLen; omega) (by simp) ?_; intro w1 hown hgrow; clear hown; obtain ⟨g0, g1⟩ := g_cells ((Below.refl (w.heap.size + 1) _).grown hgrow (by simp) (by simp))) | fail)
  have hB0 : Below w.heap.size w w1 := ((Below.refl _ _).alloc (Nat.le_refl _) _).grown hgrow (by simp) (by simp)
  refine (write_all (some x) cap 0 [] ({ data := #[] } : ByteArray) 0 _ (by simp) (by omega) (by simp) (by omega) (fun h => absurd rfl h) (.inr (.inl ⟨rfl, by simp⟩))).mono ?_
  rintro e w2 ⟨rfl, hB1⟩
  go_wp2_with fail
  refine (model_all (some ⟨w.heap.size + 1, 0, none⟩) 0 0 [] ({ data := #[] } : ByteArray) 0 _ (by simp) (by omega) (by simp) (by omega) (fun h => absurd rfl h) (.inr (.inl ⟨rfl, by simp⟩))).mono ?_
  rintro e w3 ⟨rfl, hB2⟩
  generalize resS ({ data := #[] } : ByteArray) 0 [] 0 = R
  have hB : Below w.heap.size w w3 := hB0.trans ((hB1.mono hB0.size).trans (hB2.mono (Nat.le_trans hB0.size hB1.size)))
  clear hB1 hB2 hB0 hgrow hcp g0 g1
  go_wp2
  refine wp_loop_rounds 1 ?_
  rw [rounds_succ]
  go_wp2
  go_ret
  exact ⟨rfl, hB⟩

set_option maxHeartbeats 800000 in
theorem law_someC (b off len cap : Nat) (zs : List Int)  (w : World)   (h0 : 0 < len) (hm : len ≤ 1048576) (hz : len ≤ zs.length)
    (hc : ∀ j, j < len → w.cell? ⟨b, off + j, none⟩ = some (.int .u8 (zs.getD j 0))) (hr : ∀ j : Nat, 0 ≤ zs[j]?.getD 0 ∧ zs[j]?.getD 0 ≤ 255) :
    Calls Yba.prog 3 #[.string { data := #[] }, .int .i64 0, .slice (some ⟨b, off, none⟩) len cap] w fun e w' => e = .returned (.bool true) ∧ Below w.heap.size w w' := by
  have hb : b < w.heap.size := block_lt_of_cell (hc 0 h0)
  have hd : decide ((1048576 : Int) < (len : Int)) = false := decide_eq_false (by omega)
  have hne := fun wx => run_neq_slice_nil_any (P := Yba.prog) wx 22 5 (some ⟨b, off, none⟩) len cap 0 0 Yba.underlying22
  have heq := fun wx => Lib.run_eql_slice_nil (P := Yba.prog) wx 22 5 (some ⟨b, off, none⟩) len cap 0 0 Yba.underlying22
  have heq2 := fun wx => Lib.run_eql_slice_nil (P := Yba.prog) wx 22 5 (some ⟨w.heap.size + 1, 0, none⟩) len len 0 0 Yba.underlying22
  obtain ⟨i0, hi, hz0, hz1, hz2⟩ := info_parts info5
  have HC : Hid (∀ j, j < len → w.cell? ⟨b, off + j, none⟩ = some (.int .u8 (zs.getD j 0))) := hc
  have HA : Hid (∀ o : Obj, ∀ j, j < len → (w.alloc o).cell? ⟨b, off + j, none⟩ = some (.int .u8 (zs.getD j 0))) := fun o j hj =>
    (((Below.refl w.heap.size w).alloc (Nat.le_refl _) o).cell (show b < w.heap.size from hb)).trans (hc j hj)
  clear hc
  go_enter Yba.func3, Yba.ntmps3
  go_wp2_with (first | (at_make; refine wpList_make_full _ rfl _ _ 22 rfl (w.heap.size + 1) 5 i0 _ 1 Yba.underlying22 hi hz0 hz1 _ _ _ _ len rfl rfl rfl rfl (by rw [hz2]; omega) (by unfold maxLen; omega) (by simp) ?_; intro w1 hown hgrow; simp only [World.size_alloc] at hown; obtain ⟨w2, hcp, hk2, hB2, hs2⟩ := copy_step (cap := cap) hz (by simp; omega) (World.size_alloc _ _) (HA.out _) hown hgrow; have HK2 : Hid (∀ j, j < len → w2.cell? ⟨w.heap.size + 1, j, none⟩ = some (.int .u8 (zs.getD j 0))) := hk2; clear hown hgrow hk2; obtain ⟨g0, g1⟩ := g_cells hB2) | fail)
  have hB0 : Below w.heap.size w w2 := ((Below.refl _ _).alloc (Nat.le_refl _) _).trans (hB2.mono (by omega))
  have hcw : ∀ {wx : World}, Below w.heap.size w wx → ∀ j, j < len → wx.cell? ⟨b, off + j, none⟩ = some (.int .u8 (zs.getD j 0)) := fun h j hj => (h.cell (show b < w.heap.size from hb)).trans (HC.out j hj)
  refine (write_all (some ⟨b, off, none⟩) cap len zs ({ data := #[] } : ByteArray) 0 _ hz hm hr (by omega) (fun h => absurd rfl h) (.inr (.inr ⟨h0, b, off, rfl, hcw hB0⟩))).mono ?_
  rintro e w3 ⟨rfl, hB3⟩
  have hk3 : Hid (∀ j, j < len → w3.cell? ⟨w.heap.size + 1, 0 + j, none⟩ = some (.int .u8 (zs.getD j 0))) := fun j hj => by
    rw [Nat.zero_add]; exact (hB3.cell (by exact hs2)).trans (HK2.out j hj)
  have hB03 : Below w.heap.size w w3 := hB0.trans (hB3.mono hB0.size)
  have HW : Hid (∀ {wx : World}, Below w.heap.size w wx → ∀ j, j < len → wx.cell? ⟨b, off + j, none⟩ = some (.int .u8 (zs.getD j 0))) := hcw
  clear hcp hB2 hcw HK2 g0 g1
  go_wp2_with fail
  refine (model_all (some ⟨w.heap.size + 1, 0, none⟩) len len zs ({ data := #[] } : ByteArray) 0 _ hz hm hr (by omega) (fun h => absurd rfl h) (.inr (.inr ⟨h0, _, 0, rfl, hk3.out⟩))).mono ?_
  rintro e w4 ⟨rfl, hB4⟩
  have hB : Below w.heap.size w w4 := hB03.trans (hB4.mono hB03.size)
  have hk4 : Hid (∀ j, j < len → w4.cell? ⟨w.heap.size + 1, j, none⟩ = some (.int .u8 (zs.getD j 0))) := fun j hj => by
    have := hk3.out j hj
    rw [Nat.zero_add] at this
    exact (hB4.cell (p := ⟨w.heap.size + 1, j, none⟩) (Nat.lt_of_lt_of_le hs2 hB3.size)).trans this
  have hc4 : Hid (∀ j, j < len → w4.cell? ⟨b, off + j, none⟩ = some (.int .u8 (zs.getD j 0))) := HW.out hB
  generalize resS ({ data := #[] } : ByteArray) 0 zs len = R
  clear hB0 hB3 hB4 hB03 hk3 HW HA HC
  go_wp2
  go_loopw [11] (fun i wr => ∃ k : Nat, k ≤ len ∧ i = .int .i64 k ∧ Hid (∃ n, wr = w4.drewN n)) (fun i _ => len - (intOf i).toNat)
  case atStart => exact ⟨0, Nat.zero_le _, rfl, 0, rfl⟩
  case round =>
    obtain ⟨k, hk, rfl, hn⟩ := hrel
    have hcx : ∀ p, wr.cell? p = w4.cell? p := by obtain ⟨n, rfl⟩ := hn; intro p; rfl
    by_cases hlt : k < len
    · have g1 := (hcx _).trans (hk4.out k hlt)
      have g2 := (hcx _).trans (hc4.out k hlt)
      clear hcx
      go_wp2
      go_quiet (fail)
      go_wp2
      go_roundw
      case rel =>
        refine ⟨k + 1, by omega, by go_num, ?_⟩
        obtain ⟨n, rfl⟩ := hn
        exact ⟨_, by simp only [World.drewN_drewN]; rfl⟩
      case measure => simp [intOf]; omega
    · clear hcx
      go_wp2
      go_ret
      refine ⟨rfl, ?_⟩
      obtain ⟨n, rfl⟩ := hn
      exact hB.trans ⟨rfl, rfl, rfl, Nat.le_refl _, fun _ _ => rfl⟩
end Go.Proofs.Ybulkdjik
