import Derived.Test.YbulkdjikRows
import Derived.Test.YbulkdjikShelf
import Derived.WalkKit
import Derived.WalkSpells
import Derived.BigQuiet
import Derived.Deep.QuietTactic
import Derived.Laws.CopyOwn
import Derived.Laws.IdiomStrings
import Derived.Lib.Builder
namespace Go.Proofs.Ybulkdjik
open Go.RowKit
set_option linter.unusedVariables false
theorem info5 : (Yba.prog.info? 5).map (fun i => (i.zero, i.size, i.bytes)) = some (some (.int .u8 0), 1, 1) := by kernel_rfl
theorem info28 : (Yba.prog.info? 30).map (·.size) = some 2 := by kernel_rfl

/-- copyCheck at a builder that has been used: nothing turns. -/
theorem check_used (b : Nat) (w : World) (h0 : w.cell? ⟨b, 0, none⟩ = some (.pointer (some ⟨b, 0, none⟩))) :
    Calls Yba.prog 9 #[.pointer (some ⟨b, 0, none⟩)] w fun e w' => e = .returned (.tuple #[]) ∧ w' = w := by
  obtain ⟨j, hj, _⟩ := Option.map_eq_some_iff.1 info28
  go_enter Yba.func9, Yba.ntmps9
  go_wp2
  rw [Lib.run_neq_ptr_same w _ Yba.underlying28 hj]
  go_wp2
  go_end0
  exact ⟨rfl, rfl⟩

set_option maxHeartbeats 1000000 in
theorem write_byte (B b : Nat) (bs : List Value) (c : Int) (w : World) (h : Lib.BuilderAt 30 5 B b (.pointer (some ⟨b, 0, none⟩)) bs w) (hlen : bs.length + 1 ≤ 140737488355328) (hBw : B ≤ w.heap.size) :
    Calls Yba.prog 7 #[.pointer (some ⟨b, 0, none⟩), .int .u8 c] w fun e w' => e = .returned .nilIface ∧ (Lib.BuilderAt 30 5 B b (.pointer (some ⟨b, 0, none⟩)) (bs ++ [.int .u8 c]) w' ∧ Below B w w') := by
  obtain ⟨i0, hi, hz0, hz1, hz2⟩ := info_parts info5
  obtain ⟨hB, v, hbk, hown, hne⟩ := h
  have c0 : w.cell? ⟨b, 0, none⟩ = some (.pointer (some ⟨b, 0, none⟩)) := by rw [Lib.cell_of_heap hbk]; rfl
  have c1 : w.cell? ⟨b, 1, none⟩ = some v := by rw [Lib.cell_of_heap hbk]; rfl
  go_enter Yba.func7, Yba.ntmps7
  go_wp2_with (first | (go_at_call 9; refine (check_used b _ c0).mono ?_; rintro e w1 ⟨rfl, hw1⟩; obtain rfl := hw1.symm) | (at_builtin; refine wpList_append_own _ rfl _ _ 22 rfl B 5 i0 (.int .u8 0) 1 1 Yba.underlying22 hi hz0 hz1 hz2 rfl (by decide) _ _ _ rfl (hown.alloc _) ⟨_, 0, none⟩ 1 1 [.int .u8 c] rfl rfl ?c1 ?c2 ?c3 ?c4 ?c5 ?_))
  case c1 =>
    intro j u hj
    match j, hj with
    | 0, hj => simp at hj; subst hj; simp [Addr.add]
  case c2 => intro u hu; simp at hu; subst hu; rfl
  case c3 => unfold maxLen; omega
  case c4 => omega
  case c5 => simp; omega
  intro v' w2 hown' hgrow _
  have hlt : b < w.heap.size := by
    rcases Nat.lt_or_ge b w.heap.size with h' | h'
    · exact h'
    · simp [Array.getElem?_eq_none h'] at hbk
  have hb2 : w2.heap[b]? = some (.cells #[.pointer (some ⟨b, 0, none⟩), v] 30 (0, 0)) := by
    rw [hgrow.block b (by simp; omega) (fun e => hne e.symm), Lib.alloc_old w _ b hlt]
    exact hbk
  have d0 : w2.cell? ⟨b, 0, none⟩ = some (.pointer (some ⟨b, 0, none⟩)) := by rw [Lib.cell_of_heap hb2]; rfl
  have d1 : w2.cell? ⟨b, 1, none⟩ = some v := by rw [Lib.cell_of_heap hb2]; rfl
  have f1 : w2.frozen? ⟨b, 1, none⟩ = false := Lib.frozen_of_heap hb2 1
  obtain ⟨g, cap, rfl⟩ : ∃ g cap, v' = .slice (some ⟨g, 0, none⟩) (bs.length + 1) cap := by
    rcases hown'.2 with ⟨_, h0⟩ | ⟨g, cap, cur, hv, _⟩
    · omega
    · exact ⟨g, cap, hv⟩
  go_wp2
  go_ret
  refine ⟨rfl, ?_, ?_⟩
  · exact Lib.BuilderAt.put (T := 30) (e := 5) hB hb2 (bs' := bs ++ [.int .u8 c]) (by simpa using hown') (by decide)
  · exact (((Below.refl B w).alloc hBw _).grown hgrow (by simp; omega) (fun k hk => (hown.lt k hk).1)).setCell (p := ⟨b, 1, none⟩) hB _

def bts (zs : List Int) (len : Nat) : List UInt8 := (zs.take len).map fun z => UInt8.ofNat z.toNat
theorem bts_length (zs : List Int) (len : Nat) (h : len ≤ zs.length) : (bts zs len).length = len := by simp [bts]; omega
theorem bts_at (zs : List Int) (len j : Nat) (hr : ∀ j : Nat, 0 ≤ zs[j]?.getD 0 ∧ zs[j]?.getD 0 ≤ 255) (hj : j < (bts zs len).length) : (((bts zs len)[j]'hj).toNat : Int) = zs[j]?.getD 0 := by
  have h2 : j < zs.length := by simp [bts] at hj; omega
  have h3 := hr j
  simp only [bts, List.getElem_map, List.getElem_take]
  rw [List.getElem?_eq_getElem h2] at h3 ⊢
  simp only [Option.getD_some] at h3 ⊢
  simp [UInt8.toNat_ofNat']
  omega
theorem bts_succ (zs : List Int) (k : Nat) (h : k < zs.length) : bts zs (k + 1) = bts zs k ++ [UInt8.ofNat (zs[k]?.getD 0).toNat] := by
  unfold bts
  rw [List.take_succ_eq_append_getElem h, List.map_append, List.getElem?_eq_getElem h]
  rfl

/-- What 'write' has written behind k characters: groups of m, parted by s. -/
def wrt (s : UInt8) (m : Nat) (zs : List Int) : Nat → List UInt8
  | 0 => []
  | k + 1 => wrt s m zs k ++ ((if 0 < k ∧ k % m = 0 then [s] else []) ++ [UInt8.ofNat (zs[k]?.getD 0).toNat])
theorem wrt_length (s : UInt8) (m : Nat) (zs : List Int) : ∀ k, (wrt s m zs k).length ≤ 2 * k
  | 0 => by simp [wrt]
  | k + 1 => by
    have := wrt_length s m zs k
    simp only [wrt, List.length_append, List.length_cons, List.length_nil]
    split <;> simp <;> omega
theorem byteCells_append (a b : List UInt8) : Lib.byteCells (a ++ b) = Lib.byteCells a ++ Lib.byteCells b := by simp [Lib.byteCells]
theorem byteCells_one (a : UInt8) : Lib.byteCells [a] = [.int .u8 a.toNat] := by simp [Lib.byteCells]
theorem u8_back (z : Int) (h0 : 0 ≤ z) (h1 : z ≤ 255) : ((UInt8.ofNat z.toNat).toNat : Int) = z := by simp [UInt8.toNat_ofNat']; omega

theorem div_bd (n : Nat) (s : Int) (hs : s ≠ 0) : -(n : Int) ≤ (n : Int) / s ∧ (n : Int) / s ≤ n := by
  have h := Int.natAbs_tdiv_le_natAbs (n : Int) s
  rw [Int.tdiv_eq_ediv_of_nonneg (by omega)] at h
  have h2 : ((n : Int)).natAbs = n := Int.natAbs_natCast n
  omega
theorem mod_zero (k : Nat) (s : Int) : ((k : Int) % s == 0) = decide (k % s.natAbs = 0) := by
  rw [Bool.eq_iff_iff]
  simp only [beq_iff_eq, decide_eq_true_eq]
  rw [← Int.dvd_iff_emod_eq_zero, ← Int.natAbs_dvd, Int.natCast_dvd_natCast]
  exact ⟨fun h => Nat.mod_eq_zero_of_dvd h, fun h => Nat.dvd_of_mod_eq_zero h⟩
theorem wrt_sep (s : UInt8) (m : Nat) (zs : List Int) (k : Nat) (h : 0 < k ∧ k % m = 0) : wrt s m zs (k + 1) = wrt s m zs k ++ [s] ++ [UInt8.ofNat (zs[k]?.getD 0).toNat] := by
  rw [wrt, if_pos h, List.append_assoc]
theorem wrt_plain (s : UInt8) (m : Nat) (zs : List Int) (k : Nat) (h : ¬ (0 < k ∧ k % m = 0)) : wrt s m zs (k + 1) = wrt s m zs k ++ [UInt8.ofNat (zs[k]?.getD 0).toNat] := by
  rw [wrt, if_neg h, List.nil_append]

theorem two_new (w : World) (o1 o2 : Obj) : ((w.alloc o1).alloc o2).heap[w.heap.size + 1]? = some o2 := by
  have h := heap_alloc_new (w.alloc o1) o2
  rwa [show (w.alloc o1).heap.size = w.heap.size + 1 by simp] at h

set_option maxHeartbeats 800000 in
theorem write_some (b off len cap : Nat) (zs : List Int) (sep : ByteArray) (size : Int) (s0 : UInt8) (w : World) (hs : (size == 0) = false) (h0 : 0 < len) (hm : len ≤ 1048576) (hz : len ≤ zs.length)
    (hsep : 0 < sep.size) (hs0 : ∀ h : 0 < sep.size, sep[0] = s0) (hlo : -9223372036854775808 ≤ size ∧ size ≤ 9223372036854775807)
    (hc : ∀ j, j < len → w.cell? ⟨b, off + j, none⟩ = some (.int .u8 (zs.getD j 0))) (hr : ∀ j : Nat, 0 ≤ zs[j]?.getD 0 ∧ zs[j]?.getD 0 ≤ 255) :
    Calls Yba.prog 4 #[.agg #[.string sep, .int .i64 size], .slice (some ⟨b, off, none⟩) len cap] w fun e w' => e = .returned (.string ⟨(wrt s0 size.natAbs zs len).toArray⟩) ∧ Below w.heap.size w w' := by
  have hs1 : size ≠ 0 := by simpa using hs
  have hd := div_bd len size hs1
  have hb : b < w.heap.size := block_lt_of_cell (hc 0 h0)
  have HC : Hid (∀ j, j < len → w.cell? ⟨b, off + j, none⟩ = some (.int .u8 (zs.getD j 0))) := hc
  have HS1 : Hid (size ≠ 0) := hs1
  clear hc hs1
  go_enter Yba.func4, Yba.ntmps4
  obtain ⟨n, hn⟩ : ∃ n : Nat, (len : Int) + (len : Int) / size = (n : Int) := ⟨((len : Int) + (len : Int) / size).toNat, by omega⟩
  have HN : Hid ((len : Int) + (len : Int) / size = (n : Int)) := hn
  have hn2 : n ≤ 2097152 := by omega
  clear hn
  go_wp2_with fail
  rw [HN.out]
  refine (Yba.Builder_Grow_fresh (w.heap.size + 1) (w.heap.size + 1) n _ (Nat.le_refl _) (two_new w _ _) (by simp) (by omega)).mono ?_
  rintro e w1 ⟨rfl, hbt, hB1⟩
  have hB : Below w.heap.size w w1 := (((Below.refl _ _).alloc (Nat.le_refl _) _).alloc (by simp) _).trans (hB1.mono (by omega))
  have hg1 : w1.cell? ⟨w.heap.size, 1, none⟩ = some (.int .i64 size) := (hB1.cell (p := ⟨w.heap.size, 1, none⟩) (by simp)).trans (by simp)
  have hg0 : w1.cell? ⟨w.heap.size, 0, none⟩ = some (.string sep) := (hB1.cell (p := ⟨w.heap.size, 0, none⟩) (by simp)).trans (by simp)
  have hsz : w.heap.size + 1 ≤ w1.heap.size := by have := hB1.size; simp at this; omega
  have hb1 := hbt.lt
  go_wp2
  go_loopw [24] (fun i wr => ∃ k : Nat, k ≤ len ∧ i = .int .i64 k ∧ Hid (Lib.BuilderAt 30 5 (w.heap.size + 1) (w.heap.size + 1) (.pointer (some ⟨w.heap.size + 1, 0, none⟩)) (Lib.byteCells (wrt s0 size.natAbs zs k)) wr) ∧ Below (w.heap.size + 1) w1 wr)
    (fun i _ => len - (intOf i).toNat)
  case atStart => exact ⟨0, Nat.zero_le _, rfl, hbt, Below.refl _ _⟩
  case round =>
    obtain ⟨k, hk, rfl, hbk, hBk⟩ := hrel
    clear hbt
    by_cases hlt : k < len
    · have hcell : wr.cell? ⟨b, off + k, none⟩ = some (.int .u8 (zs.getD k 0)) := (hBk.cell (show b < w.heap.size + 1 by omega)).trans ((hB.cell (by exact hb)).trans (HC.out k hlt))
      have hk1 : wr.cell? ⟨w.heap.size, 1, none⟩ = some (.int .i64 size) := (hBk.cell (p := ⟨w.heap.size, 1, none⟩) (by simp)).trans hg1
      have hk0 : wr.cell? ⟨w.heap.size, 0, none⟩ = some (.string sep) := (hBk.cell (p := ⟨w.heap.size, 0, none⟩) (by simp)).trans hg0
      have hrk := hr k
      have hsk : w.heap.size + 1 ≤ wr.heap.size := by have := hBk.size; omega
      have hmod := mod_zero k size
      have hlen := wrt_length s0 size.natAbs zs k
      have HBC : ∀ l : List UInt8, (Lib.byteCells l).length = l.length := fun l => Lib.byteCells_length l
      clear hg1 hg0 hb1 hB1
      by_cases hsp : 0 < k ∧ k % size.natAbs = 0
      · have h1 : 0 < k := hsp.1
        have h2 : ((k : Int) % size == 0) = true := by rw [hmod]; exact decide_eq_true hsp.2
        have HE : Hid (Lib.byteCells (wrt s0 size.natAbs zs (k + 1)) = Lib.byteCells (wrt s0 size.natAbs zs k) ++ [.int .u8 (s0.toNat : Int)] ++ [.int .u8 (zs[k]?.getD 0)]) := by
          show _ = _
          rw [wrt_sep _ _ _ _ hsp, byteCells_append, byteCells_append, byteCells_one, byteCells_one, u8_back _ hrk.1 hrk.2]
        clear hmod hsp
        have hq := hs0 hsep
        go_wp2_with fail
        refine (write_byte (w.heap.size + 1) (w.heap.size + 1) _ _ _ hbk.out (by rw [HBC]; omega) hsk).mono ?_
        rintro e w2 ⟨rfl, hb2, hB2⟩
        go_wp2_with fail
        refine (write_byte (w.heap.size + 1) (w.heap.size + 1) _ _ _ hb2 (by simp only [List.length_append, List.length_cons, List.length_nil]; rw [HBC]; omega) (by have := hB2.size; omega)).mono ?_
        rintro e w3 ⟨rfl, hb3, hB3⟩
        go_wp2
        go_roundw
        case rel => exact ⟨k + 1, by omega, by go_num, (HE.out.symm ▸ hb3 : _), hBk.trans (hB2.trans hB3)⟩
        case measure => simp [intOf]; omega
      · have HE : Hid (Lib.byteCells (wrt s0 size.natAbs zs (k + 1)) = Lib.byteCells (wrt s0 size.natAbs zs k) ++ [.int .u8 (zs[k]?.getD 0)]) := by
          show _ = _
          rw [wrt_plain _ _ _ _ hsp, byteCells_append, byteCells_one, u8_back _ hrk.1 hrk.2]
        by_cases h1 : 0 < k
        · have h2 : ((k : Int) % size == 0) = false := by rw [hmod]; exact decide_eq_false (fun h => hsp ⟨h1, h⟩)
          clear hmod hsp
          go_wp2_with fail
          refine (write_byte (w.heap.size + 1) (w.heap.size + 1) _ _ _ hbk.out (by rw [HBC]; omega) hsk).mono ?_
          rintro e w2 ⟨rfl, hb2, hB2⟩
          go_wp2
          go_roundw
          case rel => exact ⟨k + 1, by omega, by go_num, (HE.out.symm ▸ hb2 : _), hBk.trans hB2⟩
          case measure => simp [intOf]; omega
        · clear hmod hsp
          have h2 : ¬ (0 : Int) < (k : Int) := by omega
          go_wp2_with fail
          refine (write_byte (w.heap.size + 1) (w.heap.size + 1) _ _ _ hbk.out (by rw [HBC]; omega) hsk).mono ?_
          rintro e w2 ⟨rfl, hb2, hB2⟩
          go_wp2
          go_roundw
          case rel => exact ⟨k + 1, by omega, by go_num, (HE.out.symm ▸ hb2 : _), hBk.trans hB2⟩
          case measure => simp [intOf]; omega
    · obtain rfl : k = len := by omega
      have hsk : w.heap.size + 1 ≤ wr.heap.size := by have := hBk.size; omega
      go_wp2_with (go_at_call 8; refine (Yba.Builder_String_any (w.heap.size + 1) (w.heap.size + 1) _ _ (.inr hbk.out) hsk).mono ?_; rintro e w3 ⟨rfl, hB3⟩)
      go_ret
      exact ⟨rfl, hB.trans ((hBk.trans hB3).mono (by omega))⟩

set_option maxHeartbeats 800000 in
theorem write_empty (a : Option Addr) (cap : Nat) (sep : ByteArray) (size : Int) (w : World) (hs : (size == 0) = false) (hlo : -9223372036854775808 ≤ size ∧ size ≤ 9223372036854775807) :
    Calls Yba.prog 4 #[.agg #[.string sep, .int .i64 size], .slice a 0 cap] w fun e w' => e = .returned (.string ⟨#[]⟩) ∧ Below w.heap.size w w' := by
  have hs1 : ¬ size = 0 := by simpa using hs
  go_enter Yba.func4, Yba.ntmps4
  go_wp2_with fail
  refine (Yba.Builder_Grow_fresh (w.heap.size + 1) (w.heap.size + 1) 0 _ (Nat.le_refl _) (two_new w _ _) (by simp) (by omega)).mono ?_
  rintro e w1 ⟨rfl, hbt, hB1⟩
  have hB : Below w.heap.size w w1 := (((Below.refl _ _).alloc (Nat.le_refl _) _).alloc (by simp) _).trans (hB1.mono (by omega))
  have hsk : w.heap.size + 1 ≤ w1.heap.size := by have := hB1.size; simp at this; omega
  go_wp2
  refine wp_loop_rounds 1 ?_
  rw [rounds_succ]
  go_wp2_with (go_at_call 8; refine (Yba.Builder_String_any (w.heap.size + 1) (w.heap.size + 1) [] _ (.inr hbt) hsk).mono ?_; rintro e w3 ⟨rfl, hB3⟩)
  go_ret
  exact ⟨rfl, hB.trans (hB3.mono (by omega))⟩

theorem conv_back (a : Option Addr) (cap len : Nat) (zs : List Int) (w : World) (hz : len ≤ zs.length) (hr : ∀ j : Nat, 0 ≤ zs[j]?.getD 0 ∧ zs[j]?.getD 0 ≤ 255)
    (hc : (len = 0 ∧ a = none) ∨ ∃ x, a = some x ∧ ∀ j, j < len → w.cell? (x.add j) = some (.int .u8 (zs.getD j 0))) :
    (convert 22 9 (.slice a len cap)).run Yba.prog w = .ok (.string ⟨(bts zs len).toArray⟩) w := by
  rcases hc with ⟨rfl, rfl⟩ | ⟨x, rfl, hc⟩
  · rw [run_convert_bytes_string w 22 9 5 none 0 cap Yba.underlying22 Yba.underlying5 Yba.underlying9]
    simp [Conv.bytesToString, bts]
    rfl
  · have h := run_convert_bytes_back (P := Yba.prog) w 22 9 5 x cap (bts zs len) Yba.underlying22 Yba.underlying5 Yba.underlying9 (by
      intro j hj
      rw [bts_at zs len j hr hj, hc j (by rw [bts_length zs len hz] at hj; exact hj), List.getD_eq_getElem?_getD])
    rwa [bts_length zs len hz] at h

theorem write_bare (a : Option Addr) (cap len : Nat) (zs : List Int) (sep : ByteArray) (w : World) (hz : len ≤ zs.length) (hr : ∀ j : Nat, 0 ≤ zs[j]?.getD 0 ∧ zs[j]?.getD 0 ≤ 255)
    (hc : (len = 0 ∧ a = none) ∨ ∃ x, a = some x ∧ ∀ j, j < len → w.cell? (x.add j) = some (.int .u8 (zs.getD j 0))) :
    Calls Yba.prog 4 #[.agg #[.string sep, .int .i64 0], .slice a len cap] w fun e w' => e = .returned (.string ⟨(bts zs len).toArray⟩) ∧ Below w.heap.size w w' := by
  have hb : Below w.heap.size w (w.alloc (.cells #[.string sep, .int .i64 0] 24)) := (Below.refl _ _).alloc (Nat.le_refl _) _
  have hcv := conv_back a cap len zs (w.alloc (.cells #[.string sep, .int .i64 0] 24)) hz hr (by
    rcases hc with h | ⟨x, rfl, hc⟩
    · exact .inl h
    · exact .inr ⟨x, rfl, fun j hj => (hb.cell (p := x.add j) (block_lt_of_cell (hc j hj))).trans (hc j hj)⟩)
  clear hc
  go_enter Yba.func4, Yba.ntmps4
  go_wp2
  go_ret
  exact ⟨rfl, hb⟩
end Go.Proofs.Ybulkdjik
