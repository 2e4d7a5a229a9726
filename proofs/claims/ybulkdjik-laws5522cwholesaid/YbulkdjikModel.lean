import Derived.Test.YbulkdjikWrite
import Derived.WalkKit
import Derived.WalkSpells
import Derived.BigQuiet
import Derived.Deep.QuietTactic
import Derived.Laws.CopyOwn
import Derived.Laws.IdiomStrings
import Derived.Lib.Builder
namespace Go.Proofs.Ybulkdjik
open Go.RowKit
set_option linter.unusedVariables false
def cnt (m : Nat) : Nat → Nat
  | 0 => 0
  | k + 1 => (if cnt m k = m then 0 else cnt m k) + 1
theorem cnt_eq (m : Nat) (hm : 1 ≤ m) : ∀ k, cnt m k = if k = 0 then 0 else (k - 1) % m + 1
  | 0 => by simp [cnt]
  | k + 1 => by
    rw [cnt, cnt_eq m hm k, if_neg (show ¬ k + 1 = 0 by omega)]
    by_cases h0 : k = 0
    · subst h0; rw [if_pos rfl]
      have : ¬ (0 : Nat) = m := by omega
      rw [if_neg this]; simp
    · rw [if_neg h0]
      have hlt := Nat.mod_lt (k - 1) (show m > 0 by omega)
      have e : (k + 1 - 1) % m = ((k - 1) % m + 1) % m := by
        have : k + 1 - 1 = (k - 1) + 1 := by omega
        rw [this, Nat.add_mod]; simp
      rw [e]
      by_cases h1 : (k - 1) % m + 1 = m
      · rw [if_pos h1, h1, Nat.mod_self]
      · rw [if_neg h1, Nat.mod_eq_of_lt (show (k - 1) % m + 1 < m by omega)]
theorem cnt_hit (m : Nat) (hm : 1 ≤ m) (k : Nat) : cnt m k = m ↔ (0 < k ∧ k % m = 0) := by
  rw [cnt_eq m hm k]
  by_cases h0 : k = 0
  · subst h0; simp; omega
  · rw [if_neg h0]
    have hlt := Nat.mod_lt (k - 1) (show m > 0 by omega)
    have hk : k % m = ((k - 1) % m + 1) % m := by
      conv => lhs; rw [show k = k - 1 + 1 by omega]
      rw [Nat.add_mod]; simp
    by_cases h1 : (k - 1) % m + 1 = m
    · rw [h1, Nat.mod_self] at hk
      exact ⟨fun _ => ⟨by omega, hk⟩, fun _ => h1⟩
    · rw [Nat.mod_eq_of_lt (show (k - 1) % m + 1 < m by omega)] at hk
      exact ⟨fun h => absurd h h1, fun h => by omega⟩
theorem cnt_le (m : Nat) : ∀ k, cnt m k ≤ k
  | 0 => by simp [cnt]
  | k + 1 => by
    have := cnt_le m k
    rw [cnt]; split <;> omega
theorem neg_wrap (s : Int) (h : s < 0) (hlo : -9223372036854775808 ≤ s) : IntKind.u64.wrap (-IntKind.u64.wrap s) = (s.natAbs : Int) := by
  simp [IntKind.wrap, IntKind.signed, IntKind.bits]
  omega

theorem below_fits {w wr w2 : World} {o : Obj} (hBk : Below w.heap.size w wr) (hg : (wr.alloc o).grownBy w2 (some w.heap.size)) : Below w.heap.size w w2 :=
  (hBk.alloc hBk.size _).grown hg (by have := hBk.size; simp; omega) (fun q hq => Nat.le_of_eq (Option.some.inj hq))

set_option maxHeartbeats 800000 in
theorem model_pos (b off len cap : Nat) (zs : List Int) (sep : ByteArray) (m : Nat) (s0 : UInt8) (w : World) (hm1 : 1 ≤ m) (hmx : m ≤ 9223372036854775807) (h0 : 0 < len) (hm : len ≤ 1048576) (hz : len ≤ zs.length)
    (hsep : 0 < sep.size) (hs0 : ∀ h : 0 < sep.size, sep[0] = s0)
    (hc : ∀ j, j < len → w.cell? ⟨b, off + j, none⟩ = some (.int .u8 (zs.getD j 0))) (hr : ∀ j : Nat, 0 ≤ zs[j]?.getD 0 ∧ zs[j]?.getD 0 ≤ 255) :
    Calls Yba.prog 5 #[.string sep, .int .i64 (m : Int), .slice (some ⟨b, off, none⟩) len cap] w fun e w' => e = .returned (.string ⟨(wrt s0 m zs len).toArray⟩) ∧ Below w.heap.size w w' := by
  obtain ⟨i0, hi, hz0, hz1, hz2⟩ := info_parts info5
  have hb : b < w.heap.size := block_lt_of_cell (hc 0 h0)
  have HC : Hid (∀ j, j < len → w.cell? ⟨b, off + j, none⟩ = some (.int .u8 (zs.getD j 0))) := hc
  clear hc
  have hs : ((m : Int) == 0) = false := by rw [beq_eq_false_iff_ne]; omega
  go_enter Yba.func5, Yba.ntmps5
  go_wp2_with (at_make; refine wpList_make_own _ rfl _ _ 22 rfl w.heap.size 5 i0 _ 1 Yba.underlying22 hi hz0 hz1 _ _ _ (2 * len) rfl rfl (by omega) (by rw [hz2]; omega) (by unfold maxLen; omega) (Nat.le_refl _) ?_; intro w1 hown hgrow)
  have hB : Below w.heap.size w w1 := (Below.refl _ _).grown hgrow (Nat.le_refl _) (by simp)
  clear hgrow
  go_loopw [8, 9, 10] (fun v c i wr => ∃ k : Nat, k ≤ len ∧ i = .int .i64 k ∧ c = .int .u64 (cnt m k) ∧ v = .slice (some ⟨w.heap.size, 0, none⟩) (wrt s0 m zs k).length (2 * len) ∧
      Hid (wr.ownsRow w.heap.size 5 1 (.slice (some ⟨w.heap.size, 0, none⟩) (wrt s0 m zs k).length (2 * len)) (wrt s0 m zs k).length (Lib.byteCells (wrt s0 m zs k))) ∧ Below w.heap.size w wr)
    (fun _ _ i _ => len - (intOf i).toNat)
  case atStart => exact ⟨0, Nat.zero_le _, rfl, rfl, rfl, hown, hB⟩
  case round =>
    obtain ⟨k, hk, rfl, rfl, rfl, hok, hBk⟩ := hrel
    clear hown
    have hlen := wrt_length s0 m zs k
    by_cases hlt : k < len
    · have hcell : wr.cell? ⟨b, off + k, none⟩ = some (.int .u8 (zs.getD k 0)) := (hBk.cell (by exact hb)).trans (HC.out k hlt)
      have hrk := hr k
      have hcl := cnt_le m k
      have hsz : w.heap.size ≤ wr.heap.size := hBk.size
      have hit := cnt_hit m hm1 k
      by_cases hsp : 0 < k ∧ k % m = 0
      · have he : ((cnt m k : Int) == (m : Int)) = true := by
          rw [beq_iff_eq]; have := hit.2 hsp; omega
        have HE : Hid (Lib.byteCells (wrt s0 m zs (k + 1)) = Lib.byteCells (wrt s0 m zs k) ++ [.int .u8 (s0.toNat : Int)] ++ [.int .u8 (zs[k]?.getD 0)]) := by
          show _ = _
          rw [wrt_sep _ _ _ _ hsp, byteCells_append, byteCells_append, byteCells_one, byteCells_one, u8_back _ hrk.1 hrk.2]
        have HL : Hid ((wrt s0 m zs (k + 1)).length = (wrt s0 m zs k).length + 1 + 1) := by
          show _ = _
          rw [wrt_sep _ _ _ _ hsp]; simp
        have HCN : Hid (cnt m (k + 1) = 0 + 1) := by
          show _ = _
          rw [cnt, if_pos (hit.2 hsp)]
        have hq := hs0 hsep
        clear hsp hit
        go_wp2_with (first | (at_builtin; refine wpList_append_fits _ rfl (.tmp 34) (.tmp 37) 22 rfl w.heap.size 5 i0 1 Yba.underlying22 hi hz1 w.heap.size _ (2 * len) _ rfl (hok.out.alloc _) ⟨wr.heap.size, 0, none⟩ 1 1 [.int .u8 (s0.toNat : Int)] rfl rfl (cell_one_new _ _ _) (by intro u hu; simp at hu; subst hu; rfl) (by omega) ?_; intro w2 hown2 hgrow2; have hB2 := below_fits hBk hgrow2; have hcell2 : w2.cell? ⟨b, off + k, none⟩ = some (.int .u8 (zs.getD k 0)) := (hB2.cell (by exact hb)).trans (HC.out k hlt); have hsz2 : w.heap.size ≤ w2.heap.size := hB2.size; clear hgrow2 hcell) | (at_builtin; refine wpList_append_fits _ rfl (.tmp 39) (.tmp 44) 22 rfl w.heap.size 5 i0 1 Yba.underlying22 hi hz1 w.heap.size _ (2 * len) _ rfl (hown2.alloc _) ⟨w2.heap.size, 0, none⟩ 1 1 [.int .u8 (zs[k]?.getD 0)] rfl rfl (cell_one_new _ _ _) (by intro u hu; simp at hu; subst hu; rfl) (by omega) ?_; intro w3 hown3 hgrow3; have hB3 := below_fits hB2 hgrow3; clear hgrow3 hown2))
        go_roundw
        case rel =>
          refine ⟨k + 1, by omega, by go_num, by rw [HCN.out]; rfl, by rw [HL.out], ?_, hB3⟩
          rw [HL.out, HE.out]; exact hown3
        case measure => simp [intOf]; omega
      · have he : ((cnt m k : Int) == (m : Int)) = false := by
          rw [beq_eq_false_iff_ne]; intro h; exact hsp (hit.1 (by omega))
        have HE : Hid (Lib.byteCells (wrt s0 m zs (k + 1)) = Lib.byteCells (wrt s0 m zs k) ++ [.int .u8 (zs[k]?.getD 0)]) := by
          show _ = _
          rw [wrt_plain _ _ _ _ hsp, byteCells_append, byteCells_one, u8_back _ hrk.1 hrk.2]
        have HL : Hid ((wrt s0 m zs (k + 1)).length = (wrt s0 m zs k).length + 1) := by
          show _ = _
          rw [wrt_plain _ _ _ _ hsp]; simp
        have HCN : Hid (cnt m (k + 1) = cnt m k + 1) := by
          show _ = _
          rw [cnt, if_neg (fun h => hsp (hit.1 h))]
        clear hsp hit
        go_wp2_with (at_builtin; refine wpList_append_fits _ rfl (.tmp 39) (.tmp 44) 22 rfl w.heap.size 5 i0 1 Yba.underlying22 hi hz1 w.heap.size _ (2 * len) _ rfl (hok.out.alloc _) ⟨wr.heap.size, 0, none⟩ 1 1 [.int .u8 (zs[k]?.getD 0)] rfl rfl (cell_one_new _ _ _) (by intro u hu; simp at hu; subst hu; rfl) (by omega) ?_; intro w3 hown3 hgrow3; have hB3 := below_fits hBk hgrow3; clear hgrow3)
        go_roundw
        case rel =>
          refine ⟨k + 1, by omega, by go_num, by rw [HCN.out]; go_num, by rw [HL.out], ?_, hB3⟩
          rw [HL.out, HE.out]; exact hown3
        case measure => simp [intOf]; omega
    · obtain rfl : k = len := by omega
      have hcv := run_convert_bytes_back (P := Yba.prog) wr 22 9 5 ⟨w.heap.size, 0, none⟩ (2 * k) (wrt s0 m zs k) Yba.underlying22 Yba.underlying5 Yba.underlying9 (by
        intro j hj
        rw [Addr.add_lit, Nat.zero_add, hok.out.cellAt j (by omega)]
        simp [Lib.byteCells, List.getElem?_eq_getElem hj])
      go_wp2
      go_ret
      exact ⟨rfl, hBk⟩

set_option maxHeartbeats 800000 in
theorem model_neg (b off len cap : Nat) (zs : List Int) (sep : ByteArray) (size : Int) (m : Nat) (s0 : UInt8) (w : World) (hneg : size < 0) (hlo : -9223372036854775808 ≤ size) (hma : Hid (size.natAbs = m)) (hm1 : 1 ≤ m) (h0 : 0 < len) (hm : len ≤ 1048576) (hz : len ≤ zs.length)
    (hsep : 0 < sep.size) (hs0 : ∀ h : 0 < sep.size, sep[0] = s0)
    (hc : ∀ j, j < len → w.cell? ⟨b, off + j, none⟩ = some (.int .u8 (zs.getD j 0))) (hr : ∀ j : Nat, 0 ≤ zs[j]?.getD 0 ∧ zs[j]?.getD 0 ≤ 255) :
    Calls Yba.prog 5 #[.string sep, .int .i64 size, .slice (some ⟨b, off, none⟩) len cap] w fun e w' => e = .returned (.string ⟨(wrt s0 m zs len).toArray⟩) ∧ Below w.heap.size w w' := by
  obtain ⟨i0, hi, hz0, hz1, hz2⟩ := info_parts info5
  have hb : b < w.heap.size := block_lt_of_cell (hc 0 h0)
  have HC : Hid (∀ j, j < len → w.cell? ⟨b, off + j, none⟩ = some (.int .u8 (zs.getD j 0))) := hc
  clear hc
  have hs : (size == 0) = false := by rw [beq_eq_false_iff_ne]; omega
  have hnw : IntKind.u64.wrap (-IntKind.u64.wrap size) = (m : Int) := by rw [neg_wrap size hneg hlo, hma.out]
  go_enter Yba.func5, Yba.ntmps5
  go_wp2_with (at_make; refine wpList_make_own _ rfl _ _ 22 rfl w.heap.size 5 i0 _ 1 Yba.underlying22 hi hz0 hz1 _ _ _ (2 * len) rfl rfl (by omega) (by rw [hz2]; omega) (by unfold maxLen; omega) (Nat.le_refl _) ?_; intro w1 hown hgrow)
  have hB : Below w.heap.size w w1 := (Below.refl _ _).grown hgrow (Nat.le_refl _) (by simp)
  clear hgrow
  go_loopw [8, 9, 10] (fun v c i wr => ∃ k : Nat, k ≤ len ∧ i = .int .i64 k ∧ c = .int .u64 (cnt m k) ∧ v = .slice (some ⟨w.heap.size, 0, none⟩) (wrt s0 m zs k).length (2 * len) ∧
      Hid (wr.ownsRow w.heap.size 5 1 (.slice (some ⟨w.heap.size, 0, none⟩) (wrt s0 m zs k).length (2 * len)) (wrt s0 m zs k).length (Lib.byteCells (wrt s0 m zs k))) ∧ Below w.heap.size w wr)
    (fun _ _ i _ => len - (intOf i).toNat)
  case atStart => exact ⟨0, Nat.zero_le _, rfl, rfl, rfl, hown, hB⟩
  case round =>
    obtain ⟨k, hk, rfl, rfl, rfl, hok, hBk⟩ := hrel
    clear hown
    have hlen := wrt_length s0 m zs k
    by_cases hlt : k < len
    · have hcell : wr.cell? ⟨b, off + k, none⟩ = some (.int .u8 (zs.getD k 0)) := (hBk.cell (by exact hb)).trans (HC.out k hlt)
      have hrk := hr k
      have hcl := cnt_le m k
      have hsz : w.heap.size ≤ wr.heap.size := hBk.size
      have hit := cnt_hit m hm1 k
      by_cases hsp : 0 < k ∧ k % m = 0
      · have he : ((cnt m k : Int) == (m : Int)) = true := by
          rw [beq_iff_eq]; have := hit.2 hsp; omega
        have HE : Hid (Lib.byteCells (wrt s0 m zs (k + 1)) = Lib.byteCells (wrt s0 m zs k) ++ [.int .u8 (s0.toNat : Int)] ++ [.int .u8 (zs[k]?.getD 0)]) := by
          show _ = _
          rw [wrt_sep _ _ _ _ hsp, byteCells_append, byteCells_append, byteCells_one, byteCells_one, u8_back _ hrk.1 hrk.2]
        have HL : Hid ((wrt s0 m zs (k + 1)).length = (wrt s0 m zs k).length + 1 + 1) := by
          show _ = _
          rw [wrt_sep _ _ _ _ hsp]; simp
        have HCN : Hid (cnt m (k + 1) = 0 + 1) := by
          show _ = _
          rw [cnt, if_pos (hit.2 hsp)]
        have hq := hs0 hsep
        clear hsp hit
        go_wp2_with (first | (at_builtin; refine wpList_append_fits _ rfl (.tmp 34) (.tmp 37) 22 rfl w.heap.size 5 i0 1 Yba.underlying22 hi hz1 w.heap.size _ (2 * len) _ rfl (hok.out.alloc _) ⟨wr.heap.size, 0, none⟩ 1 1 [.int .u8 (s0.toNat : Int)] rfl rfl (cell_one_new _ _ _) (by intro u hu; simp at hu; subst hu; rfl) (by omega) ?_; intro w2 hown2 hgrow2; have hB2 := below_fits hBk hgrow2; have hcell2 : w2.cell? ⟨b, off + k, none⟩ = some (.int .u8 (zs.getD k 0)) := (hB2.cell (by exact hb)).trans (HC.out k hlt); have hsz2 : w.heap.size ≤ w2.heap.size := hB2.size; clear hgrow2 hcell) | (at_builtin; refine wpList_append_fits _ rfl (.tmp 39) (.tmp 44) 22 rfl w.heap.size 5 i0 1 Yba.underlying22 hi hz1 w.heap.size _ (2 * len) _ rfl (hown2.alloc _) ⟨w2.heap.size, 0, none⟩ 1 1 [.int .u8 (zs[k]?.getD 0)] rfl rfl (cell_one_new _ _ _) (by intro u hu; simp at hu; subst hu; rfl) (by omega) ?_; intro w3 hown3 hgrow3; have hB3 := below_fits hB2 hgrow3; clear hgrow3 hown2))
        go_roundw
        case rel =>
          refine ⟨k + 1, by omega, by go_num, by rw [HCN.out]; rfl, by rw [HL.out], ?_, hB3⟩
          rw [HL.out, HE.out]; exact hown3
        case measure => simp [intOf]; omega
      · have he : ((cnt m k : Int) == (m : Int)) = false := by
          rw [beq_eq_false_iff_ne]; intro h; exact hsp (hit.1 (by omega))
        have HE : Hid (Lib.byteCells (wrt s0 m zs (k + 1)) = Lib.byteCells (wrt s0 m zs k) ++ [.int .u8 (zs[k]?.getD 0)]) := by
          show _ = _
          rw [wrt_plain _ _ _ _ hsp, byteCells_append, byteCells_one, u8_back _ hrk.1 hrk.2]
        have HL : Hid ((wrt s0 m zs (k + 1)).length = (wrt s0 m zs k).length + 1) := by
          show _ = _
          rw [wrt_plain _ _ _ _ hsp]; simp
        have HCN : Hid (cnt m (k + 1) = cnt m k + 1) := by
          show _ = _
          rw [cnt, if_neg (fun h => hsp (hit.1 h))]
        clear hsp hit
        go_wp2_with (at_builtin; refine wpList_append_fits _ rfl (.tmp 39) (.tmp 44) 22 rfl w.heap.size 5 i0 1 Yba.underlying22 hi hz1 w.heap.size _ (2 * len) _ rfl (hok.out.alloc _) ⟨wr.heap.size, 0, none⟩ 1 1 [.int .u8 (zs[k]?.getD 0)] rfl rfl (cell_one_new _ _ _) (by intro u hu; simp at hu; subst hu; rfl) (by omega) ?_; intro w3 hown3 hgrow3; have hB3 := below_fits hBk hgrow3; clear hgrow3)
        go_roundw
        case rel =>
          refine ⟨k + 1, by omega, by go_num, by rw [HCN.out]; go_num, by rw [HL.out], ?_, hB3⟩
          rw [HL.out, HE.out]; exact hown3
        case measure => simp [intOf]; omega
    · obtain rfl : k = len := by omega
      have hcv := run_convert_bytes_back (P := Yba.prog) wr 22 9 5 ⟨w.heap.size, 0, none⟩ (2 * k) (wrt s0 m zs k) Yba.underlying22 Yba.underlying5 Yba.underlying9 (by
        intro j hj
        rw [Addr.add_lit, Nat.zero_add, hok.out.cellAt j (by omega)]
        simp [Lib.byteCells, List.getElem?_eq_getElem hj])
      go_wp2
      go_ret
      exact ⟨rfl, hBk⟩

set_option maxHeartbeats 800000 in
theorem model_empty (a : Option Addr) (cap : Nat) (sep : ByteArray) (size : Int) (w : World) (hs : (size == 0) = false) (hlo : -9223372036854775808 ≤ size ∧ size ≤ 9223372036854775807) :
    Calls Yba.prog 5 #[.string sep, .int .i64 size, .slice a 0 cap] w fun e w' => e = .returned (.string ⟨#[]⟩) ∧ Below w.heap.size w w' := by
  obtain ⟨i0, hi, hz0, hz1, hz2⟩ := info_parts info5
  rcases Int.lt_or_le size 0 with hneg | hpos
  all_goals
    go_enter Yba.func5, Yba.ntmps5
    go_wp2_with (at_make; refine wpList_make_own _ rfl _ _ 22 rfl w.heap.size 5 i0 _ 1 Yba.underlying22 hi hz0 hz1 _ _ _ 0 rfl rfl (by omega) (by omega) (by unfold maxLen; omega) (Nat.le_refl _) ?_; intro w1 hown hgrow)
    have hB : Below w.heap.size w w1 := (Below.refl _ _).grown hgrow (Nat.le_refl _) (by simp)
    have hcv := run_convert_bytes_back (P := Yba.prog) w1 22 9 5 ⟨w.heap.size, 0, none⟩ 0 [] Yba.underlying22 Yba.underlying5 Yba.underlying9 (by intro j hj; simp at hj)
    simp only [List.length_nil] at hcv
    clear hgrow hown
    refine wp_loop_rounds 1 ?_
    rw [rounds_succ]
    go_wp2
    go_ret
    exact ⟨rfl, hB⟩

theorem model_bare (a : Option Addr) (cap len : Nat) (zs : List Int) (sep : ByteArray) (w : World) (hz : len ≤ zs.length) (hr : ∀ j : Nat, 0 ≤ zs[j]?.getD 0 ∧ zs[j]?.getD 0 ≤ 255)
    (hc : (len = 0 ∧ a = none) ∨ ∃ x, a = some x ∧ ∀ j, j < len → w.cell? (x.add j) = some (.int .u8 (zs.getD j 0))) :
    Calls Yba.prog 5 #[.string sep, .int .i64 0, .slice a len cap] w fun e w' => e = .returned (.string ⟨(bts zs len).toArray⟩) ∧ Below w.heap.size w w' := by
  have hcv := conv_back a cap len zs w hz hr hc
  clear hc
  go_enter Yba.func5, Yba.ntmps5
  go_wp2
  go_ret
  exact ⟨rfl, Below.refl _ _⟩

/-- What both answer. -/
def resS (sep : ByteArray) (size : Int) (zs : List Int) (len : Nat) : ByteArray := ⟨(if size = 0 then bts zs len else wrt (sep.data.getD 0 0) size.natAbs zs len).toArray⟩

/-- What a slice of bytes is known by: nil; empty; or its cells at a plain address. -/
def Row (w : World) (a : Option Addr) (len : Nat) (zs : List Int) : Prop :=
  (len = 0 ∧ a = none) ∨ (len = 0 ∧ a ≠ none) ∨ (0 < len ∧ ∃ b off, a = some ⟨b, off, none⟩ ∧ ∀ j, j < len → w.cell? ⟨b, off + j, none⟩ = some (.int .u8 (zs.getD j 0)))

theorem Row.conv {w : World} {a : Option Addr} {len : Nat} {zs : List Int} (h : Row w a len zs) : (len = 0 ∧ a = none) ∨ ∃ x, a = some x ∧ ∀ j, j < len → w.cell? (x.add j) = some (.int .u8 (zs.getD j 0)) := by
  rcases h with h | ⟨h1, h2⟩ | ⟨_, b, off, rfl, hc⟩
  · exact .inl h
  · obtain ⟨x, hx⟩ := Option.ne_none_iff_exists'.1 h2
    exact .inr ⟨x, hx, fun j hj => by omega⟩
  · exact .inr ⟨_, rfl, fun j hj => by rw [Addr.add_lit]; exact hc j hj⟩

theorem sep0 (sep : ByteArray) : ∀ h : 0 < sep.size, sep[0] = sep.data.getD 0 0 := by
  intro h
  obtain ⟨d⟩ := sep
  have h' : 0 < d.size := h
  show d[0] = _
  simp [Array.getD, h']

theorem write_all (a : Option Addr) (cap len : Nat) (zs : List Int) (sep : ByteArray) (size : Int) (w : World) (hz : len ≤ zs.length) (hm : len ≤ 1048576) (hr : ∀ j : Nat, 0 ≤ zs[j]?.getD 0 ∧ zs[j]?.getD 0 ≤ 255)
    (hlo : -9223372036854775808 ≤ size ∧ size ≤ 9223372036854775807) (hsep : size ≠ 0 → 0 < sep.size) (hrow : Row w a len zs) :
    Calls Yba.prog 4 #[.agg #[.string sep, .int .i64 size], .slice a len cap] w fun e w' => e = .returned (.string (resS sep size zs len)) ∧ Below w.heap.size w w' := by
  unfold resS
  by_cases hs : size = 0
  · subst hs
    rw [if_pos rfl]
    exact write_bare a cap len zs sep w hz hr hrow.conv
  · rw [if_neg hs]
    have hs' : (size == 0) = false := beq_eq_false_iff_ne.2 hs
    rcases hrow with ⟨rfl, _⟩ | ⟨rfl, _⟩ | ⟨h0, b, off, rfl, hc⟩
    · exact write_empty a cap sep size w hs' hlo
    · exact write_empty a cap sep size w hs' hlo
    · exact write_some b off len cap zs sep size _ w hs' h0 hm hz (hsep hs) (sep0 sep) hlo hc hr

theorem model_all (a : Option Addr) (cap len : Nat) (zs : List Int) (sep : ByteArray) (size : Int) (w : World) (hz : len ≤ zs.length) (hm : len ≤ 1048576) (hr : ∀ j : Nat, 0 ≤ zs[j]?.getD 0 ∧ zs[j]?.getD 0 ≤ 255)
    (hlo : -9223372036854775808 ≤ size ∧ size ≤ 9223372036854775807) (hsep : size ≠ 0 → 0 < sep.size) (hrow : Row w a len zs) :
    Calls Yba.prog 5 #[.string sep, .int .i64 size, .slice a len cap] w fun e w' => e = .returned (.string (resS sep size zs len)) ∧ Below w.heap.size w w' := by
  unfold resS
  by_cases hs : size = 0
  · subst hs
    rw [if_pos rfl]
    exact model_bare a cap len zs sep w hz hr hrow.conv
  · rw [if_neg hs]
    have hs' : (size == 0) = false := beq_eq_false_iff_ne.2 hs
    rcases hrow with ⟨rfl, _⟩ | ⟨rfl, _⟩ | ⟨h0, b, off, rfl, hc⟩
    · exact model_empty a cap sep size w hs' hlo
    · exact model_empty a cap sep size w hs' hlo
    · rcases Int.lt_or_le size 0 with hneg | hpos
      · exact model_neg b off len cap zs sep size size.natAbs _ w hneg hlo.1 rfl (by omega) h0 hm hz (hsep hs) (sep0 sep) hc hr
      · obtain ⟨m, rfl⟩ := Int.eq_ofNat_of_zero_le hpos
        rw [Int.natAbs_natCast]
        exact model_pos b off len cap zs sep m _ w (by omega) (by omega) h0 hm hz (hsep hs) (sep0 sep) hc hr
end Go.Proofs.Ybulkdjik
