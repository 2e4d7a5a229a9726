import Derived.Test.YbulkdjhiRows
import Derived.WalkKit
import Derived.ProofKit
import Derived.OpenShut
import Derived.ShutString
import Derived.ChangeOld
import Derived.Below
import Derived.Laws.CopyOwn
import Derived.Laws.IdiomStrings
import Derived.BigQuiet
import Derived.Deep.QuietTactic
import Derived.WalkSpells
namespace Go.Proofs.Ybulkdjhi.lawS5520CWhole
open Go.ChangeShapes Go.WideShapes Go.ChangeAt Go.RowKit
open Go.ChangeMaps (open_string shut_string)
set_option linter.unusedVariables false

theorem own : ownKnob Yba.prog.godebug = none := by kernel_rfl
theorem laidOut : laidOutB Yba.prog = true := by kernel_rfl

def hdI (z : Int) : Int := if z % 16 < 10 then 48 + z % 16 else 87 + z % 16
theorem Yba.info5 : (Yba.prog.info? 5).map (fun i => (i.zero, i.size, i.bytes)) = some (some (.int .u8 0), 1, 1) := by kernel_rfl

theorem ret_int {k : IntKind} {a b : Int} (h : a = b) : Ending.returned (.int k a) = .returned (.int k b) := by rw [h]
theorem digit_any (z : Int) (w : World) (h0 : 0 ≤ z) (h1 : z ≤ 255) :
    Calls Yba.prog 5 #[.int .u8 z] w fun e w' => e = .returned (.int .u8 (hdI z)) ∧ w' = w := by
  go_enter Yba.func5, Yba.ntmps5
  go_wp2
  · go_ret
    exact ⟨ret_int (by rw [hdI, if_pos (by assumption)]), rfl⟩
  · go_ret
    exact ⟨ret_int (by rw [hdI, if_neg (by omega)]; omega), rfl⟩

theorem hdI_bd (z : Int) : 48 ≤ hdI z ∧ hdI z ≤ 102 := by unfold hdI; split <;> omega

theorem tab_nat : ∀ r : Nat, (h : r < 16) → ((({ data := #[48, 49, 50, 51, 52, 53, 54, 55, 56, 57, 97, 98, 99, 100, 101, 102] } : ByteArray)[r]'h).toNat : Int) = if (r : Int) < 10 then 48 + (r : Int) else 87 + (r : Int) := by
  decide

theorem tab_at (z : Int) (h : (z % 16).toNat < ({ data := #[48, 49, 50, 51, 52, 53, 54, 55, 56, 57, 97, 98, 99, 100, 101, 102] } : ByteArray).size) :
    ((({ data := #[48, 49, 50, 51, 52, 53, 54, 55, 56, 57, 97, 98, 99, 100, 101, 102] } : ByteArray)[(z % 16).toNat]'h).toNat : Int) = hdI z := by
  rw [tab_nat (z % 16).toNat (by omega), hdI]
  have : ((z % 16).toNat : Int) = z % 16 := by omega
  rw [this]

def hcells (zs : List Int) (len k : Nat) : List Value := (zs.take k).map (fun z => Value.int .u8 (hdI z)) ++ List.replicate (len - k) (.int .u8 0)
theorem hcells_zero (zs : List Int) (len : Nat) : hcells zs len 0 = List.replicate len (.int .u8 0) := by simp [hcells]
theorem hcells_at (zs : List Int) (len k : Nat) (hk : k < len) (hz : len ≤ zs.length) : (hcells zs len k)[k]? = some (.int .u8 0) := by
  unfold hcells
  have h1 : ((zs.take k).map (fun z => Value.int .u8 (hdI z))).length = k := by simp; omega
  rw [List.getElem?_append_right (by omega), h1, Nat.sub_self, List.getElem?_replicate, if_pos (by omega)]
theorem hcells_succ (zs : List Int) (len k : Nat) (hk : k < len) (hz : len ≤ zs.length) : (hcells zs len k).set k (.int .u8 (hdI (zs[k]?.getD 0))) = hcells zs len (k + 1) := by
  unfold hcells
  have h1 : ((zs.take k).map (fun z => Value.int .u8 (hdI z))).length = k := by simp; omega
  rw [List.set_append_right _ _ (by omega), h1]
  have h2 : len - k = (len - (k + 1)) + 1 := by omega
  have h3 : zs.take (k + 1) = zs.take k ++ [zs[k]?.getD 0] := by
    rw [List.take_succ_eq_append_getElem (by omega), List.getElem?_eq_getElem (show k < zs.length by omega)]; rfl
  rw [h2, List.replicate_succ, Nat.sub_self, List.set_cons_zero, h3, List.map_append, List.append_assoc]
  rfl
theorem hcells_len (zs : List Int) (len : Nat) : hcells zs len len = (zs.take len).map (fun z => Value.int .u8 (hdI z)) := by simp [hcells]

def hexS (zs : List Int) (len : Nat) : List UInt8 := (zs.take len).map (fun z => UInt8.ofNat (hdI z).toNat)
theorem hexS_length (zs : List Int) (len : Nat) (h : len ≤ zs.length) : (hexS zs len).length = len := by simp [hexS]; omega
theorem ofNat_hd (z : Int) : ((UInt8.ofNat (hdI z).toNat).toNat : Int) = hdI z := by
  have := hdI_bd z
  simp [UInt8.toNat_ofNat']
  omega
theorem hexS_at (zs : List Int) (len j : Nat) (hj : j < (hexS zs len).length) : (((hexS zs len)[j]'hj).toNat : Int) = hdI (zs[j]?.getD 0) := by
  have h2 : j < zs.length := by simp [hexS] at hj; omega
  simp only [hexS, List.getElem_map, List.getElem_take, ofNat_hd]
  simp [List.getElem?_eq_getElem h2]

set_option maxHeartbeats 400000 in
theorem hex_some (b off : Nat) (len cap : Nat) (zs : List Int) (w : World) (hl : len ≤ cap) (hm : len ≤ 1048576) (hz : zs.length = cap)
    (hc : ∀ i, i < len → b < w.heap.size ∧ w.cell? ⟨b, off + i, none⟩ = some (.int .u8 (zs.getD i 0))) (hw : ∀ j : Nat, 0 ≤ zs[j]?.getD 0 ∧ zs[j]?.getD 0 ≤ 255) :
    Calls Yba.prog 4 #[.slice (some ⟨b, off, none⟩) len cap] w fun e w' => e = .returned (.string ⟨(hexS zs len).toArray⟩) ∧ Below w.heap.size w w' := by
  obtain ⟨i0, hi, hz0, hz1, hz2⟩ := info_parts Yba.info5
  go_enter Yba.func4, Yba.ntmps4
  go_wp2_with (first | (at_make; refine wpList_make_full _ rfl _ _ 22 rfl w.heap.size 5 i0 _ 1 Yba.underlying22 hi hz0 hz1 _ _ _ _ len rfl rfl rfl rfl (by rw [hz2]; omega) (by unfold maxLen; omega) (Nat.le_refl _) ?_; intro w1 hown hgrow))
  have e0 : (madeCells (Value.cells (.int .u8 0)) (len * 1)).toList = hcells zs len 0 := by
    rw [hcells_zero]; simpa [Value.cells] using toList_madeCells_one (.int .u8 0) len
  rw [e0] at hown
  have hB : Below w.heap.size w w1 := (Below.refl _ _).grown hgrow (Nat.le_refl _) (by simp)
  clear hgrow e0
  go_loopw [11] (fun i wr => ∃ k : Nat, k ≤ len ∧ i = .int .i64 k ∧ wr.ownsRow w.heap.size 5 1 (.slice (some ⟨w.heap.size, 0, none⟩) len len) len (hcells zs len k) ∧ Below w.heap.size w wr)
    (fun i _ => len - (intOf i).toNat)
  case atStart => exact ⟨0, Nat.zero_le _, rfl, hown, hB⟩
  case round =>
    obtain ⟨k, hk, rfl, hown', hB'⟩ := hrel
    clear hown hB
    by_cases hlt : k < len
    · have hcell : wr.cell? ⟨b, off + k, none⟩ = some (.int .u8 (zs.getD k 0)) := (hB'.cell (by exact (hc k hlt).1)).trans (hc k hlt).2
      have hwk := hw k
      have hcd : wr.cell? ⟨w.heap.size, k, none⟩ = some (.int .u8 0) := (hown'.cellAt k (by omega)).trans (hcells_at zs len k hlt (by omega))
      have hfd : wr.frozen? ⟨w.heap.size, k, none⟩ = false := hown'.frozenAt k
      have hst := hown'.stored k (.int .u8 (hdI (zs[k]?.getD 0)))
      rw [hcells_succ zs len k hlt (by omega)] at hst
      have HST := hst.1
      have HB2 : Below w.heap.size w (wr.setCell ⟨w.heap.size, k, none⟩ (.int .u8 (hdI (zs[k]?.getD 0)))) := hB'.setCell (Nat.le_refl _) _
      clear hst hown' hB'
      go_wp2
      go_roundw
      case rel =>
        rw [tab_at]
        exact ⟨k + 1, by omega, by go_num, HST, HB2⟩
      case measure => simp [intOf]; omega
    · obtain rfl : k = len := by omega
      have hcv := run_convert_bytes_back (P := Yba.prog) wr 22 9 5 ⟨w.heap.size, 0, none⟩ k (hexS zs k) Yba.underlying22 Yba.underlying5 Yba.underlying9 (by
        intro j hj
        have hj2 : j < k := by rw [hexS_length zs k (by omega)] at hj; exact hj
        rw [hexS_at]
        have := hown'.cellAt j (by omega)
        rw [hcells_len] at this
        rw [Addr.add_lit, Nat.zero_add, this]
        simp [hj2, List.getElem?_eq_getElem (show j < zs.length by omega)])
      rw [hexS_length zs k (by omega)] at hcv
      go_wp2
      go_ret
      exact ⟨rfl, hB'⟩

set_option maxHeartbeats 400000 in
theorem hex_empty (a : Option Addr) (cap : Nat) (w : World) :
    Calls Yba.prog 4 #[.slice a 0 cap] w fun e w' => e = .returned (.string ⟨#[]⟩) ∧ Below w.heap.size w w' := by
  obtain ⟨i0, hi, hz0, hz1, hz2⟩ := info_parts Yba.info5
  go_enter Yba.func4, Yba.ntmps4
  go_wp2_with (first | (at_make; refine wpList_make_full _ rfl _ _ 22 rfl w.heap.size 5 i0 _ 1 Yba.underlying22 hi hz0 hz1 _ _ _ _ 0 rfl rfl rfl rfl (by omega) (by unfold maxLen; omega) (Nat.le_refl _) ?_; intro w1 hown hgrow))
  have hB : Below w.heap.size w w1 := (Below.refl _ _).grown hgrow (Nat.le_refl _) (by simp)
  clear hgrow
  refine wp_loop_rounds 1 ?_
  rw [rounds_succ]
  have hcv := run_convert_bytes_back (P := Yba.prog) w1 22 9 5 ⟨w.heap.size, 0, none⟩ 0 [] Yba.underlying22 Yba.underlying5 Yba.underlying9 (by intro j hj; simp at hj)
  simp only [List.length_nil] at hcv
  go_wp2
  go_ret
  exact ⟨rfl, hB⟩

def IsRow (k : IntKind) (w : World) (a : Option Addr) (len cap : Nat) (zs : List Int) : Prop :=
  (a = none ∧ len = 0 ∧ cap = 0 ∧ zs = []) ∨
  ∃ x, a = some x ∧ len ≤ cap ∧ cap ≤ maxLen ∧ zs.length = cap ∧ (∀ i, i < zs.length → w.cell? (x.add i) = some (.int k (zs.getD i 0))) ∧ ∀ n ∈ zs, (Lit.int k n).wf = true

theorem law_big (a : Option Addr) (len cap : Nat) (w : World) (h : (1048576 : Int) < (len : Int)) :
    Calls Yba.prog 3 #[.slice a len cap] w fun e w' => e = .returned (.bool true) ∧ Below w.heap.size w w' := by
  go_enter Yba.func3, Yba.ntmps3
  go_wp2
  go_ret
  exact ⟨rfl, Below.refl _ _⟩

set_option maxHeartbeats 400000 in
theorem law_nil (w : World) :
    Calls Yba.prog 3 #[.slice none 0 0] w fun e w' => e = .returned (.bool true) ∧ Below w.heap.size w w' := by
  have hne := fun wx => run_neq_slice_nil_any (P := Yba.prog) wx 22 5 none 0 0 0 0 Yba.underlying22
  go_enter Yba.func3, Yba.ntmps3
  go_wp2_with (first | (go_at_call 4; refine (hex_empty _ _ _).mono ?_; rintro e w3 ⟨rfl, hB3⟩))
  refine wp_loop_rounds 1 ?_
  rw [rounds_succ]
  go_wp2
  go_ret
  exact ⟨rfl, hB3⟩

theorem own_block {w : World} {base g n : Nat} {xs : List Value} (h : w.ownsRow base 5 1 (.slice (some ⟨g, 0, none⟩) n n) n xs) : w.heap[g]? = some (.cells xs.toArray 5 (0, 0)) := by
  rcases h.2 with ⟨h', _⟩ | ⟨g', cap', cur, h', _, hg, _, _, hs, htake⟩
  · simp at h'
  · simp only [Value.slice.injEq, Option.some.injEq, Addr.mk.injEq, and_true, true_and] at h'
    obtain ⟨rfl, rfl⟩ := h'
    rw [hg, ← htake, List.take_of_length_le (by simp; omega)]

theorem info5s : (Yba.prog.info? 5).map (·.size) = some 1 := by kernel_rfl

set_option maxHeartbeats 400000 in
theorem law_zero (x : Addr) (cap : Nat) (w : World) :
    Calls Yba.prog 3 #[.slice (some x) 0 cap] w fun e w' => e = .returned (.bool true) ∧ Below w.heap.size w w' := by
  have hne := fun wx => run_neq_slice_nil_any (P := Yba.prog) wx 22 5 (some x) 0 cap 0 0 Yba.underlying22
  obtain ⟨i0, hi, hz0, hz1, hz2⟩ := info_parts Yba.info5
  have hcp := fun wx ty => run_copy_none (P := Yba.prog) wx 22 22 ty 5 (some ⟨w.heap.size, 0, none⟩) (some x) 0 0 0 cap Yba.underlying22 info5s (by decide)
  go_enter Yba.func3, Yba.ntmps3
  go_wp2_with (first | (at_make; refine wpList_make_full _ rfl _ _ 22 rfl w.heap.size 5 i0 _ 1 Yba.underlying22 hi hz0 hz1 _ _ _ _ 0 rfl rfl rfl rfl (by omega) (by unfold maxLen; omega) (Nat.le_refl _) ?_; intro w1 hown hgrow) | (go_at_call 4; refine (hex_empty _ _ _).mono ?_; rintro e w3 ⟨rfl, hB3⟩))
  refine wp_loop_rounds 1 ?_
  rw [rounds_succ]
  go_wp2
  go_ret
  exact ⟨rfl, ((Below.refl _ _).grown hgrow (Nat.le_refl _) (by simp)).trans (hB3.mono hgrow.size)⟩

theorem set_all (zs : List Int) (len : Nat) (hz : len ≤ zs.length) : ((zs.take len).map (Value.int .u8)).length = len := by simp; omega
theorem keep_at (zs : List Int) (len j : Nat) (hj : j < len) (hz : len ≤ zs.length) : ((zs.take len).map (Value.int .u8))[j]? = some (.int .u8 (zs.getD j 0)) := by
  simp [hj, List.getElem?_eq_getElem (show j < zs.length by omega)]

theorem copy_step {b off len cap : Nat} {zs : List Int} {w w1 : World} {xs : List Value} (hz : len ≤ zs.length) (hb : b < w.heap.size)
    (hc : ∀ i, i < len → w.cell? ⟨b, off + i, none⟩ = some (.int .u8 (zs.getD i 0)))
    (hown : w1.ownsRow w.heap.size 5 1 (.slice (some ⟨w.heap.size, 0, none⟩) len len) len xs) (hgrow : w.grownBy w1 none) :
    ∃ w2, (∀ ty, (Builtin.copy_ #[22, 22] ty #[.slice (some ⟨w.heap.size, 0, none⟩) len len, .slice (some ⟨b, off, none⟩) len cap]).run Yba.prog w1 = .ok (goInt len) w2) ∧
      (∀ j, j < len → w2.cell? ⟨w.heap.size, j, none⟩ = some (.int .u8 (zs.getD j 0))) ∧ Below w.heap.size w w2 ∧ w.heap.size < w2.heap.size := by
  have hB1 : Below w.heap.size w w1 := (Below.refl _ _).grown hgrow (Nat.le_refl _) (by simp)
  have hblk := own_block hown
  have hxs : xs.length = len := by have := hown.1; omega
  have hc1 : ∀ j, j < len → w1.cell? ⟨b, off + j, none⟩ = some (.int .u8 (zs.getD j 0)) := fun j hj => (hB1.cell (by exact hb)).trans (hc j (by omega))
  have hcp := fun ty => run_copy_row Yba.prog w1 22 22 ty 5 w.heap.size 0 len len ⟨b, off, none⟩ len cap _ 5 ((zs.take len).map (Value.int .u8)) Yba.underlying22 info5s hblk (by rw [set_all zs len (by omega)]; simp)
    (by
      intro j v hj
      have hj2 : j < len := by
        have := (List.getElem?_eq_some_iff.1 hj).1
        rwa [set_all zs len (by omega)] at this
      rw [keep_at zs len j hj2 (by omega)] at hj
      rw [Addr.add_lit, hc1 j hj2, hj])
    (by rw [set_all zs len (by omega)]; simp; omega) (ints_oneCell _ _)
  have hrow := setRow_heap w1 w.heap.size _ ((zs.take len).map (Value.int .u8)).toArray 5 _ hblk
  have hB2' := below_setRow hB1 (Nat.le_refl _) ((zs.take len).map (Value.int .u8)).toArray
  have hcel : (xs.toArray.toList.take 0 ++ (zs.take len).map (Value.int .u8) ++ xs.toArray.toList.drop (0 + ((zs.take len).map (Value.int .u8)).length)).toArray = ((zs.take len).map (Value.int .u8)).toArray := by
    rw [set_all zs len hz]; simp [List.drop_eq_nil_of_le (show xs.length ≤ len by omega)]
  rw [hcel, set_all zs len hz] at hcp
  refine ⟨_, hcp, ?_, hB2', ?_⟩
  · intro j hj
    rw [cell_of_row _ _ j _ 5 (0, 0) hrow, List.getElem?_toArray, keep_at zs len j hj hz]
  · exact lt_of_block hrow

set_option maxHeartbeats 800000 in
theorem law_some (b off : Nat) (len cap : Nat) (zs : List Int) (w : World) (h0 : 0 < len) (hl : len ≤ cap) (hm : len ≤ 1048576) (hz : zs.length = cap)
    (hc : ∀ i, i < len → w.cell? ⟨b, off + i, none⟩ = some (.int .u8 (zs.getD i 0))) (hw : ∀ j : Nat, 0 ≤ zs[j]?.getD 0 ∧ zs[j]?.getD 0 ≤ 255) :
    Calls Yba.prog 3 #[.slice (some ⟨b, off, none⟩) len cap] w fun e w' => e = .returned (.bool true) ∧ Below w.heap.size w w' := by
  have hb : b < w.heap.size := block_lt_of_cell (hc 0 (by omega))
  have hne := fun wx => run_neq_slice_nil_any (P := Yba.prog) wx 22 5 (some ⟨b, off, none⟩) len cap 0 0 Yba.underlying22
  obtain ⟨i0, hi, hz0, hz1, hz2⟩ := info_parts Yba.info5
  obtain ⟨s, hs⟩ : ∃ s : ByteArray, s = ⟨(hexS zs len).toArray⟩ := ⟨_, rfl⟩
  have hsz : s.size = len := by rw [hs]; exact hexS_length zs len (by omega)
  have hsk : ∀ (k : Nat) (h : k < s.size), (s[k].toNat : Int) = hdI (zs[k]?.getD 0) := by
    subst hs; intro k h
    exact hexS_at zs len k h
  have HS : Hid (s = ⟨(hexS zs len).toArray⟩) := hs
  have HSK : Hid (∀ (k : Nat) (h : k < s.size), (s[k].toNat : Int) = hdI (zs[k]?.getD 0)) := hsk
  have HC : Hid (∀ i, i < len → w.cell? ⟨b, off + i, none⟩ = some (.int .u8 (zs.getD i 0))) := hc
  clear hs hsk hc
  go_enter Yba.func3, Yba.ntmps3
  go_wp2_with (first | (at_make; refine wpList_make_full _ rfl _ _ 22 rfl w.heap.size 5 i0 _ 1 Yba.underlying22 hi hz0 hz1 _ _ _ _ len rfl rfl rfl rfl (by rw [hz2]; omega) (by unfold maxLen; omega) (Nat.le_refl _) ?_; intro w1 hown hgrow; obtain ⟨w2, hcp, hk2, hB2, hs2⟩ := copy_step (cap := cap) (show len ≤ zs.length by omega) hb HC.out hown hgrow; have HK2 : Hid (∀ j, j < len → w2.cell? ⟨w.heap.size, j, none⟩ = some (.int .u8 (zs.getD j 0))) := hk2; clear hown hgrow hk2) | (go_at_call 4; refine (hex_some b off len cap zs _ hl hm hz ?_ hw).mono ?_))
  · intro i hi
    exact ⟨by omega, (hB2.cell (by exact hb)).trans (HC.out i hi)⟩
  rintro e w3 ⟨rfl, hB3⟩
  rw [← HS.out]
  have hk3 : ∀ j, j < len → w3.cell? ⟨w.heap.size, j, none⟩ = some (.int .u8 (zs.getD j 0)) := fun j hj => (hB3.cell (by exact hs2)).trans (HK2.out j hj)
  have hc3 : ∀ j, j < len → w3.cell? ⟨b, off + j, none⟩ = some (.int .u8 (zs.getD j 0)) := fun j hj => (hB3.cell (show b < w2.heap.size by omega)).trans ((hB2.cell (by exact hb)).trans (HC.out j hj))
  have hB : Below w.heap.size w w3 := hB2.trans (hB3.mono (by omega))
  clear hcp hB2 hB3 hs2 HK2 HC
  go_wp2
  go_loopw [5] (fun i wr => ∃ k : Nat, k ≤ len ∧ i = .int .i64 k ∧ Hid (∃ n, wr = w3.drewN n)) (fun i _ => len - (intOf i).toNat)
  case atStart => exact ⟨0, Nat.zero_le _, rfl, 0, rfl⟩
  case round =>
    obtain ⟨k, hk, rfl, hn⟩ := hrel
    have hcw : ∀ p, wr.cell? p = w3.cell? p := by obtain ⟨n, rfl⟩ := hn; intro p; rfl
    by_cases hlt : k < len
    · have g1 := (hcw _).trans (hk3 k hlt)
      have g2 := (hcw _).trans (hc3 k hlt)
      have g3 := hw k
      have g4 := HSK.out k (by omega)
      clear hk3 hc3 hcw
      go_wp2
      go_quiet ((go_at_call 5; exact Calls.quiet_of_same (digit_any _ _ (by omega) (by omega))))
      go_wp2
      go_quiet (fail)
      go_wp2
      go_roundw
      case rel =>
        refine ⟨k + 1, by omega, by go_num, ?_⟩
        obtain ⟨n, rfl⟩ := hn
        exact ⟨_, by simp only [World.drewN_drewN]; rfl⟩
      case measure => simp [intOf]; omega
    · clear hcw
      go_wp2
      go_ret
      refine ⟨rfl, ?_⟩
      obtain ⟨n, rfl⟩ := hn
      exact hB.trans ⟨rfl, rfl, rfl, Nat.le_refl _, fun _ _ => rfl⟩

/-! ### STEP 1: THE WALK -/
theorem walk (a0 : Option Addr) (len0 cap0 : Nat) (z0 : List Int) (w : World) (w0 : IsRow .u8 w a0 len0 cap0 z0) :
    Calls Yba.prog 3 #[.slice a0 len0 cap0] w fun e w' => e = .returned (.bool true) ∧ Below w.heap.size w w' := by
  rcases w0 with ⟨rfl, rfl, rfl, rfl⟩ | ⟨x, rfl, hl, hm, hz, hc, hwf⟩
  · exact law_nil w
  · by_cases hbig : (1048576 : Int) < (len0 : Int)
    · exact law_big _ _ _ w hbig
    · by_cases h0 : len0 = 0
      · subst h0; exact law_zero x cap0 w
      · obtain ⟨b, off, rfl, hc'⟩ := ints_at hc (by omega)
        exact law_some b off len0 cap0 z0 w (by omega) hl (by omega) hz (fun i hi => hc' i (by omega)) (fun j => range_u8 hwf j)

/-! ### THE ROW's STEP: WRITTEN OUT: LEAVE IT -/
set_option maxRecDepth 100000 in
theorem lifted (os : Os) (started : os.Started) (H : Type) (enc : TypeId × Value → H) :
    ReturnsInHanded {} Yba.checked os 3 .any (Rows.lawS5520CWholeSpec.pre6 enc Yba.prog Yba.f3 Rows.lawS5520CWholeRow.domain false) (Rows.lawS5520CWholeSpec.post enc Yba.prog Yba.f3 false true false false) := by
  refine returnsInHanded_of_change (C := Yba.checked) own started (by kernel_rfl) Yba.func3
    (ChangeSpec.witness6 (enc := enc) (C := Yba.checked) false ⟨#[], #[.slice none 0 0], []⟩ 8 (by kernel_rfl) (by kernel_rfl) (by kernel_rfl) (by kernel_rfl)) ?_
  intro W base args ds gs before hval0 hW hcnd _
  have hval : ∀ (j : Nat) t v, Yba.f3.params[j]? = some t → args[j]? = some v → Value.okWide Yba.prog W .any base t v := hval0
  have hW' := hW
  obtain ⟨p, q, hA0, hV, rfl, hfz, hnd⟩ := hW
  have hA : DataW.TrodAll enc Yba.prog W 0 (fun _ => true) true Yba.f3.params.toList args.toList ds p := hA0
  rw [Yba.params3] at hA hval
  obtain ⟨v0, vs0, d0, ds0, p0, q0, hargs, rfl, rfl, h0, r0⟩ := trodAll_cons hA
  obtain ⟨rfl, rfl, rfl⟩ := trodAll_nil r0
  obtain rfl : args = #[v0] := by cases args; simp_all
  obtain ⟨rfl, rfl⟩ := trodVars_none hV
  obtain ⟨a0, len0, cap0, rfl⟩ := okWide_slice Yba.underlying22 (hval 0 22 v0 rfl rfl)
  have k0 := h0
  have lt0 : ∀ x ∈ p0, x.block < W.heap.size := by obtain ⟨m, hm⟩ := k0; exact DataW.trod_lt m _ _ _ hm
  obtain ⟨z0, w0⟩ : ∃ zs, IsRow .u8 W a0 len0 cap0 zs := by
    obtain ⟨fuel, hf⟩ := h0
    rcases open_ints Yba.underlying22 Yba.underlying5 (by kernel_rfl) hf with ⟨hcs, _⟩ | ⟨x, l, c, zs, hcs, _, hl, hm, hz, _, hcell, hwz⟩
    · simp [Value.cells] at hcs
      obtain ⟨rfl, rfl, rfl⟩ := hcs
      exact ⟨[], .inl ⟨rfl, rfl, rfl, rfl⟩⟩
    · simp [Value.cells] at hcs
      obtain ⟨rfl, rfl, rfl⟩ := hcs
      exact ⟨zs, .inr ⟨_, rfl, hl, hm, by simpa using hz, hcell, hwz⟩⟩
  clear hA0 hval0
  refine (walk a0 len0 cap0 z0 W w0).mono fun e W' ⟨he, bel⟩ => ?_
  subst he
  exact ⟨_, rfl, _, _, _, [], _, [], hW', trodAll_mk1 (shut_bool Yba.underlying4 _), (trodAll_cons_mk (Below.trod laidOut (by kernel_rfl) (of_decide_eq_true (by kernel_rfl)) k0 bel lt0) trodAll_mk0), rfl, bel.frame _, fun h => by cases h⟩

theorem over : Rows.lawS5520CWholeRow.holds Yba.pinned (OpenSpec.ofChange Rows.lawS5520CWholeSpec) :=
  OpenClaim.holds_of_wide 3 Yba.f3 rfl rfl rfl rfl rfl rfl rfl ⟨rfl, rfl, rfl, rfl, rfl⟩ rfl rfl rfl rfl rfl (by kernel_rfl) Yba.func3 (by kernel_rfl)
    (of_decide_eq_true (by kernel_rfl)) (by unfold Func.isWrapper; first | (rw [if_pos (by decide +kernel)]; kernel_rfl) | (rw [if_neg (by decide +kernel)]; exact ⟨rfl, rfl⟩))
    (fun os started H enc _ => lifted os started H enc)

/-- ████ THE STATEMENT ████ -/
theorem proved : Rows.LawS5520CWholeSaid := over
#print axioms proved
end Go.Proofs.Ybulkdjhi.lawS5520CWhole
