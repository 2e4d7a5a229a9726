import Derived.Test.YbulkdjhwASame
import Derived.WalkKit
import Derived.WalkSpells
import Derived.BigQuiet
import Derived.Deep.QuietTactic
import Derived.Laws.CopyOwn
import Derived.Laws.ResultCell
import Derived.Maps.OwnSet
namespace Go.Proofs.Ybulkdjhw.A
open Go.RowKit
set_option linter.unusedVariables false
/-- What a slice of entries is known by. -/
def BytesAt (w : World) (Bs : Nat) (a : Option Addr) (bs : List Int) : Prop :=
  bs.length = 0 ∨ ∃ tb to, a = some ⟨tb, to, none⟩ ∧ tb < Bs ∧ ∀ q, q < bs.length → w.cell? ⟨tb, to + q, none⟩ = some (.int .u8 (bs.getD q 0))
def EntAt (w : World) (Bs b o : Nat) (e : Ent) : Prop :=
  0 ≤ e.1 ∧ e.1 ≤ 255 ∧ (∀ q : Nat, 0 ≤ e.2[q]?.getD 0 ∧ e.2[q]?.getD 0 ≤ 255) ∧ e.2.length ≤ 9223372036854775807 ∧ w.cell? ⟨b, o, none⟩ = some (.int .u8 e.1) ∧ ∃ a cap, w.cell? ⟨b, o + 1, none⟩ = some (.slice a e.2.length cap) ∧ BytesAt w Bs a e.2

/-- The slice of targets, as numbers, in a block from lo on and below B. -/
def IdxRow2 (w : World) (lo B : Nat) (v : Value) (l : List Nat) : Prop :=
  ∃ g cap, v = .slice (some ⟨g, 0, none⟩) l.length cap ∧ lo ≤ g ∧ g < B ∧ ∀ j, j < l.length → w.cell? ⟨g, j, none⟩ = some (.int .i64 ((l.getD j 0 : Nat) : Int))

/-- Nothing but blocks p and q of what was there has turned. -/
structure But2 (p q : Nat) (w w' : World) : Prop where
  os : w'.os = w.os
  tape : w'.tape = w.tape
  output : w'.output = w.output
  size : w.heap.size ≤ w'.heap.size
  block : ∀ k, k < w.heap.size → k ≠ p → k ≠ q → w'.heap[k]? = w.heap[k]?
theorem But2.refl (p q : Nat) (w : World) : But2 p q w w := ⟨rfl, rfl, rfl, Nat.le_refl _, fun _ _ _ _ => rfl⟩
theorem But2.cell {p q : Nat} {w w' : World} (h : But2 p q w w') {a : Addr} (ha : a.block < w.heap.size) (h1 : a.block ≠ p) (h2 : a.block ≠ q) : w'.cell? a = w.cell? a := World.cell?_of_block (w := w) (h.block a.block ha h1 h2)

structure FillSt (w0 w : World) (hb ib : Nat) (t : Tab) (vs : Nat → Value) : Prop where
  has : w.heap[hb]? = some (.cells (hasA t) 26 (0, 0))
  idx : w.heap[ib]? = some (.cells (idxA vs) 28 (0, 0))
  rows : ∀ i l, t i = some l → IdxRow2 w w0.heap.size w.heap.size (vs i) l
  kept : But2 hb ib w0 w

theorem hasA_set (t : Tab) (k : Nat) (l : List Nat) (hk : k < 12) : (hasA t).setIfInBounds k (.bool true) = hasA (t.set k l) := by
  apply Array.ext_getElem?
  intro i
  rw [Array.getElem?_setIfInBounds]
  by_cases hi : i < 12
  · rw [hasA_at t i hi, hasA_at _ i hi]
    by_cases e : k = i
    · subst e; simp [Tab.set, hasA, hk]
    · rw [if_neg e]; simp [Tab.set, Ne.symm e]
  · have h1 : (hasA t).size = 12 := by simp [hasA]
    have h2 : (hasA (t.set k l)).size = 12 := by simp [hasA]
    rw [Array.getElem?_eq_none (by omega), Array.getElem?_eq_none (by omega), if_neg (by omega)]
theorem idxA_set (vs : Nat → Value) (k : Nat) (v : Value) (hk : k < 12) : (idxA vs).setIfInBounds k v = idxA (updV vs k v) := by
  apply Array.ext_getElem?
  intro i
  rw [Array.getElem?_setIfInBounds]
  by_cases hi : i < 12
  · rw [idxA_at vs i hi, idxA_at _ i hi]
    by_cases e : k = i
    · subst e; simp [updV, idxA, hk]
    · rw [if_neg e]; simp [updV, Ne.symm e]
  · have h1 : (idxA vs).size = 12 := by simp [idxA]
    have h2 : (idxA (updV vs k v)).size = 12 := by simp [idxA]
    rw [Array.getElem?_eq_none (by omega), Array.getElem?_eq_none (by omega), if_neg (by omega)]

/-- One entry stored. -/
theorem FillSt.step {w0 wr w2 : World} {hb ib : Nat} {t : Tab} {vs : Nat → Value} (h : FillSt w0 wr hb ib t vs) (h1 : hb < w0.heap.size) (h2 : ib < w0.heap.size) (hne : hb ≠ ib) (hB : Below wr.heap.size wr w2) {k : Nat} (hk : k < 12) {v : Value} {l : List Nat}
    (hv : IdxRow2 w2 wr.heap.size w2.heap.size v l) : FillSt w0 ((w2.setCell ⟨hb, k, none⟩ (.bool true)).setCell ⟨ib, k, none⟩ v) hb ib (t.set k l) (updV vs k v) := by
  have hs := h.kept.size
  have b1 : w2.heap[hb]? = some (.cells (hasA t) 26 (0, 0)) := (hB.block hb (by omega)).trans h.has
  have b2 : w2.heap[ib]? = some (.cells (idxA vs) 28 (0, 0)) := (hB.block ib (by omega)).trans h.idx
  have b1' := heap_setCell_same w2 hb k _ 26 (.bool true) b1
  have b2' : (w2.setCell ⟨hb, k, none⟩ (.bool true)).heap[ib]? = some (.cells (idxA vs) 28 (0, 0)) := (Below.heap_setCell w2 ⟨hb, k, none⟩ _ ib (Ne.symm hne)).trans b2
  have oth : ∀ q, q ≠ hb → q ≠ ib → ((w2.setCell ⟨hb, k, none⟩ (.bool true)).setCell ⟨ib, k, none⟩ v).heap[q]? = w2.heap[q]? := fun q q1 q2 => by
    rw [Below.heap_setCell _ ⟨ib, k, none⟩ _ q q2, Below.heap_setCell _ ⟨hb, k, none⟩ _ q q1]
  have sz : ((w2.setCell ⟨hb, k, none⟩ (.bool true)).setCell ⟨ib, k, none⟩ v).heap.size = w2.heap.size := by simp [World.setCell]
  refine ⟨?_, ?_, ?_, ?_⟩
  · rw [Below.heap_setCell _ ⟨ib, k, none⟩ _ hb hne, b1', hasA_set t k l hk]
  · rw [heap_setCell_same _ ib k _ 28 v b2', idxA_set vs k v hk]
  · intro i l' hl'
    unfold Tab.set at hl'
    have keep : ∀ {u : Value} {q : List Nat}, IdxRow2 w2 w0.heap.size w2.heap.size u q → IdxRow2 ((w2.setCell ⟨hb, k, none⟩ (.bool true)).setCell ⟨ib, k, none⟩ v) w0.heap.size ((w2.setCell ⟨hb, k, none⟩ (.bool true)).setCell ⟨ib, k, none⟩ v).heap.size u q := by
      rintro u q ⟨g, cap, hu, hg, hg2, hc⟩
      refine ⟨g, cap, hu, hg, by rw [sz]; exact hg2, fun j hj => ?_⟩
      rw [World.cell?_of_block (w := w2) (a := ⟨g, j, none⟩) (oth g (by omega) (by omega))]
      exact hc j hj
    by_cases e : i = k
    · subst e
      rw [if_pos rfl] at hl'; cases hl'
      simp only [updV, if_true]
      obtain ⟨g, cap, hu, hg, hg2, hc⟩ := hv
      exact keep ⟨g, cap, hu, by omega, hg2, hc⟩
    · rw [if_neg e] at hl'
      simp only [updV, if_neg e]
      obtain ⟨g, cap, hu, hg, hg2, hc⟩ := h.rows i l' hl'
      exact keep ⟨g, cap, hu, hg, Nat.lt_of_lt_of_le hg2 hB.size, fun j hj => (hB.cell (p := ⟨g, j, none⟩) hg2).trans (hc j hj)⟩
  · refine ⟨?_, ?_, ?_, ?_, fun q hq q1 q2 => ?_⟩
    · exact hB.os.trans h.kept.os
    · exact hB.tape.trans h.kept.tape
    · exact hB.output.trans h.kept.output
    · rw [sz]; exact Nat.le_trans hs hB.size
    · rw [oth q q1 q2, hB.block q (by omega)]; exact h.kept.block q hq q1 q2

theorem hide2 {p : Prop} (h : p) : Hid p := h
def tg (kk : Nat) (bs : List Int) : List Nat := (bs.take 4).map fun b => (b % (kk : Int)).toNat
theorem tg_length (kk : Nat) (bs : List Int) : (tg kk bs).length = min 4 bs.length := by simp [tg]
theorem tg_succ (kk : Nat) (bs : List Int) (j y : Nat) (hj : j < bs.length) (h4 : j < 4) (hy : (bs[j]?.getD 0) % (kk : Int) = (y : Int)) :
    ((tg kk bs).take (j + 1)).map (fun (y : Nat) => Value.int .i64 (y : Int)) = ((tg kk bs).take j).map (fun (y : Nat) => Value.int .i64 (y : Int)) ++ [.int .i64 (y : Int)] := by
  have hl : j < (tg kk bs).length := by rw [tg_length]; omega
  rw [List.take_succ_eq_append_getElem hl, List.map_append]
  have e : (tg kk bs)[j] = y := by
    rw [List.getElem?_eq_getElem hj] at hy
    simp only [Option.getD_some] at hy
    simp only [tg, List.getElem_map, List.getElem_take, hy, Int.toNat_natCast]
  rw [e]; rfl
theorem tg_at (kk : Nat) (bs : List Int) (q : Nat) (hq : q < (tg kk bs).length) : ((tg kk bs).map fun (y : Nat) => Value.int .i64 (y : Int))[q]? = some (.int .i64 (((tg kk bs).getD q 0 : Nat) : Int)) := by
  rw [List.getElem?_map, List.getElem?_eq_getElem hq, List.getD_eq_getElem?_getD, List.getElem?_eq_getElem hq]; rfl
theorem mk_facts {w w1 : World} {o : Obj} {n : Nat} {xs : List Value} (hg : (w.alloc o).grownBy w1 none) (hown : w1.ownsRow (w.heap.size + 1) 3 1 (.slice (some ⟨w.heap.size + 1, 0, none⟩) 0 n) 0 xs) : Below w.heap.size w w1 ∧ w.heap.size + 1 < w1.heap.size := by
  refine ⟨((Below.refl _ _).alloc (Nat.le_refl _) o).grown hg (by simp) (by simp), ?_⟩
  rcases hown.2 with ⟨h', _⟩ | ⟨g', cap', cur, h', _, hg', _⟩
  · cases h'
  · simp only [Value.slice.injEq, Option.some.injEq, Addr.mk.injEq] at h'
    have := lt_of_block hg'
    rw [← h'.1.1] at this; exact this
theorem mk_cell {w w1 : World} {v0 v1 : Value} {t : TypeId} (hg : (w.alloc (.cells #[v0, v1] t)).grownBy w1 none) : w1.cell? ⟨w.heap.size, 1, none⟩ = some v1 := by
  refine hg.cell ?_ (by simp)
  rw [World.cell?_alloc_mark]; rfl

set_option maxHeartbeats 2000000 in
theorem fill_some (eb eo len cap hb ib : Nat) (es : List Ent) (w : World) (hlen : es.length = len) (hm : len ≤ 1048576) (hh : hb < w.heap.size) (hib : ib < w.heap.size) (hne : hb ≠ ib) (Bs : Nat) (hBh : Bs ≤ hb) (hBi : Bs ≤ ib) (hebs : eb < Bs)
    (hes : ∀ j, j < len → ∃ e, es[j]? = some e ∧ EntAt w Bs eb (eo + j * 2) e) (v0 : Nat → Value) (hst : FillSt w w hb ib tab0 v0) :
    Calls Yba.prog 6 #[.slice (some ⟨eb, eo, none⟩) len cap, .pointer (some ⟨hb, 0, none⟩), .pointer (some ⟨ib, 0, none⟩)] w fun e w' => e = .returned (.tuple #[]) ∧ ∃ vs, FillSt w w' hb ib (fillT tab0 es) vs := by
  obtain ⟨i0, hi, hz0, hz1, hz2⟩ := info_parts info3
  have HES : Hid (∀ j, j < len → ∃ e, es[j]? = some e ∧ EntAt w Bs eb (eo + j * 2) e) := hes
  clear hes
  go_enter Yba.func6, Yba.ntmps6
  go_wp2
  go_loopw [14] (fun i wr => ∃ k : Nat, k ≤ len ∧ i = .int .i64 k ∧ ∃ vs, Hid (FillSt w wr hb ib (fillT tab0 (es.take k)) vs)) (fun i _ => len - (intOf i).toNat)
  case atStart => exact ⟨0, by omega, rfl, v0, hst⟩
  case round =>
    obtain ⟨k, hk, rfl, vs, HF⟩ := hrel
    obtain ⟨wo, rfl⟩ : ∃ wo, wo = wr := ⟨_, rfl⟩
    by_cases hlt : k < len
    · obtain ⟨⟨key, bs⟩, he, h0, h1, hrb, hln, hc0, a, cp, hc1, hbt0⟩ := HES.out k hlt
      simp only at h0 h1 hrb hc0 hc1 hbt0 hln
      have heb : eb < w.heap.size := block_lt_of_cell hc0
      have hwo := HF.out.kept.size
      have hbt : Hid (BytesAt wo Bs a bs) := by
        rcases hbt0 with h | ⟨tb, to, rfl, htb, hc⟩
        · exact .inl h
        · exact .inr ⟨tb, to, rfl, htb, fun q hq => (HF.out.kept.cell (a := ⟨tb, to + q, none⟩) (block_lt_of_cell (hc q hq)) (show tb ≠ hb by omega) (show tb ≠ ib by omega)).trans (hc q hq)⟩
      have d0 := (HF.out.kept.cell (a := ⟨eb, eo + k * 2, none⟩) heb (show eb ≠ hb by omega) (show eb ≠ ib by omega)).trans hc0
      have d1 := (HF.out.kept.cell (a := ⟨eb, eo + k * 2 + 1, none⟩) heb (show eb ≠ hb by omega) (show eb ≠ ib by omega)).trans hc1
      have htake : es.take (k + 1) = es.take k ++ [(key, bs)] := by
        obtain ⟨hk', he'⟩ := List.getElem?_eq_some_iff.1 he
        rw [List.take_succ_eq_append_getElem hk', he']
      have HTK := hide2 htake
      clear htake hc0 hc1 hbt0 he
      have hh' : hb < wo.heap.size := by omega
      have hib' : ib < wo.heap.size := by omega
      obtain ⟨kk, hkk⟩ : ∃ kk : Nat, key % 12 = (kk : Int) := ⟨(key % 12).toNat, by omega⟩
      have hk12 : kk < 12 := by omega
      by_cases h4 : (4 : Int) < (bs.length : Int)
      · by_cases hz : kk = 0
        · subst hz
          have HT : Hid (tgt (key, bs) = []) := by show _ = _; unfold tgt; rw [if_pos (by simpa using hkk)]
          go_wp2_with (at_make; refine wpList_make_own _ rfl _ _ 27 rfl (wo.heap.size + 1) 3 i0 _ 1 Yba.underlying27 hi hz0 hz1 _ _ _ (4) rfl rfl (by omega) (by rw [hz2]; omega) (by unfold maxLen; omega) (by simp) ?_; intro w1 hown hgrow; simp only [World.size_alloc] at hown; obtain ⟨hB1, hg1⟩ := mk_facts hgrow hown; have c1 := (hB1.cell (p := ⟨hb, 0, none⟩) (show hb < wo.heap.size by omega)).trans (cell_at HF.out.has (hasA_at _ 0 (by omega))); have c2 := (hB1.cell (p := ⟨ib, 0, none⟩) (show ib < wo.heap.size by omega)).trans (cell_at HF.out.idx (idxA_at _ 0 (by omega))); have c3 := (hB1.frozen (p := ⟨hb, 0, none⟩) (show hb < wo.heap.size by omega)).trans (frozen_of_row _ _ 0 _ _ HF.out.has); have c4 := (hB1.frozen (p := ⟨ib, 0, none⟩) (show ib < wo.heap.size by omega)).trans (frozen_of_row _ _ 0 _ _ HF.out.idx); have HS := hide2 (HF.out.step hh hib hne hB1 (k := 0) (by omega) (v := .slice (some ⟨wo.heap.size + 1, 0, none⟩) 0 (4)) (l := []) ⟨wo.heap.size + 1, 4, rfl, by omega, hg1, by simp⟩); clear hgrow hown)
          go_roundw
          case rel =>
            refine ⟨k + 1, by omega, by go_num, updV vs 0 (.slice (some ⟨wo.heap.size + 1, 0, none⟩) 0 (4)), ?_⟩
            show FillSt _ _ _ _ _ _
            rw [HTK.out, fillT_snoc, HT.out, show ((key, bs).1 % 12).toNat = 0 by simp [hkk]]
            exact HS.out
          case measure => simp [intOf]; omega
        · have hkp : 0 < kk := by omega
          have HT : Hid (tgt (key, bs) = tg kk bs) := by show _ = _; unfold tgt; rw [if_neg (by simp [hkk]; omega)]; simp [hkk, tg]
          go_wp2_with (at_make; refine wpList_make_own _ rfl _ _ 27 rfl (wo.heap.size + 1) 3 i0 _ 1 Yba.underlying27 hi hz0 hz1 _ _ _ (4) rfl rfl (by omega) (by rw [hz2]; omega) (by unfold maxLen; omega) (by simp) ?_; intro w1 hown hgrow; simp only [World.size_alloc] at hown; obtain ⟨hB1, hg1⟩ := mk_facts hgrow hown)
          have e1 : (w1.cell? ⟨wo.heap.size, 1, none⟩ = some (.slice a bs.length cp)) := mk_cell hgrow
          go_loopw [10, 11] (fun v q wr => ∃ j : Nat, j ≤ 4 ∧ q = .int .i64 j ∧ v = .slice (some ⟨wo.heap.size + 1, 0, none⟩) j (4) ∧
              Hid (wr.ownsRow (wo.heap.size + 1) 3 1 (.slice (some ⟨wo.heap.size + 1, 0, none⟩) j (4)) j (((tg kk bs).take j).map fun (y : Nat) => Value.int .i64 (y : Int))) ∧ Below (wo.heap.size + 1) w1 wr) (fun _ q _ => 4 - (intOf q).toNat)
          case atStart => exact ⟨0, Nat.zero_le _, rfl, rfl, hown, Below.refl _ _⟩
          case round =>
            obtain ⟨j, hj, rfl, rfl, hoj, hBj⟩ := hrel
            have hsz1 : wo.heap.size + 1 < wr.heap.size := Nat.lt_of_lt_of_le hg1 hBj.size
            by_cases hjl : j < 4
            · obtain ⟨bv, hbv⟩ : ∃ bv, bv = bs[j]?.getD 0 := ⟨_, rfl⟩
              obtain ⟨y, hy⟩ : ∃ y : Nat, bv % (kk : Int) = (y : Int) := ⟨(bv % (kk : Int)).toNat, by have := Int.emod_nonneg bv (show (kk : Int) ≠ 0 by omega); omega⟩
              obtain ⟨tb, to, rfl, htbs, hcb⟩ : ∃ tb to, a = some ⟨tb, to, none⟩ ∧ tb < Bs ∧ ∀ q, q < bs.length → wo.cell? ⟨tb, to + q, none⟩ = some (.int .u8 (bs.getD q 0)) := by
                rcases hbt.out with h | h
                · omega
                · exact h
              have hjb : j < bs.length := by omega
              have htb : tb < wo.heap.size := block_lt_of_cell (hcb j hjb)
              have g1 : wr.cell? ⟨tb, to + j, none⟩ = some (.int .u8 bv) := (hBj.cell (p := ⟨tb, to + j, none⟩) (show tb < wo.heap.size + 1 by omega)).trans ((hB1.cell (p := ⟨tb, to + j, none⟩) htb).trans ((hcb j hjb).trans (by rw [List.getD_eq_getElem?_getD, hbv])))
              have g2 : wr.cell? ⟨wo.heap.size, 1, none⟩ = some (.slice (some ⟨tb, to, none⟩) bs.length cp) := (hBj.cell (p := ⟨wo.heap.size, 1, none⟩) (show wo.heap.size < wo.heap.size + 1 by omega)).trans e1
              have hbj : 0 ≤ bv ∧ bv ≤ 255 := by rw [hbv]; exact hrb j
              have HTK : Hid (((tg kk bs).take (j + 1)).map (fun (y : Nat) => Value.int .i64 (y : Int)) = ((tg kk bs).take j).map (fun (y : Nat) => Value.int .i64 (y : Int)) ++ [.int .i64 (y : Int)]) := by
                exact tg_succ kk bs j y hjb (by omega) (by rw [← hbv]; exact hy)
              clear hcb e1 hbt hbv hjb
              go_wp2_with (at_builtin; refine wpList_append_fits _ rfl _ _ 27 rfl (wo.heap.size + 1) 3 i0 1 Yba.underlying27 hi hz1 (wo.heap.size + 1) _ (4) _ rfl (hoj.out.alloc _) ⟨wr.heap.size, 0, none⟩ 1 1 [.int .i64 (y : Int)] rfl rfl (cell_one_new _ _ _) (by intro u hu; simp at hu; subst hu; rfl) (by omega) ?_; intro w3 hown3 hgrow3; have hB3 : Below (wo.heap.size + 1) w1 w3 := (hBj.alloc (by omega) _).grown hgrow3 (by simp; omega) (fun q hq => Nat.le_of_eq (Option.some.inj hq)); clear hgrow3)
              go_roundw
              case rel =>
                refine ⟨j + 1, by omega, by go_num, rfl, ?_, hB3⟩
                show World.ownsRow _ _ _ _ _ _ _
                rw [HTK.out]; exact hown3
              case measure => simp [intOf]; omega
            · obtain rfl : j = 4 := by omega
              have hBw : Below wo.heap.size wo wr := hB1.trans (hBj.mono (by omega))
              have c1 := (hBw.cell (p := ⟨hb, kk, none⟩) (show hb < wo.heap.size by omega)).trans (cell_at HF.out.has (hasA_at _ kk (by omega)))
              have c2 := (hBw.cell (p := ⟨ib, kk, none⟩) (show ib < wo.heap.size by omega)).trans (cell_at HF.out.idx (idxA_at _ kk (by omega)))
              have c3 := (hBw.frozen (p := ⟨hb, kk, none⟩) (show hb < wo.heap.size by omega)).trans (frozen_of_row _ _ kk _ _ HF.out.has)
              have c4 := (hBw.frozen (p := ⟨ib, kk, none⟩) (show ib < wo.heap.size by omega)).trans (frozen_of_row _ _ kk _ _ HF.out.idx)
              have hll : (tg kk bs).length = 4 := by rw [tg_length]; omega
              have HS := hide2 (HF.out.step hh hib hne hBw (k := kk) (by omega) (v := .slice (some ⟨wo.heap.size + 1, 0, none⟩) (4) (4)) (l := tg kk bs) ⟨wo.heap.size + 1, 4, by rw [hll], by omega, hsz1, fun q hq => by
                rw [hll] at hq
                rw [hoj.out.cellAt q (by omega), List.take_of_length_le (by omega)]
                exact tg_at kk bs q (by rw [hll]; omega)⟩)
              clear hll e1 hbt
              go_wp2
              go_roundw
              case rel =>
                refine ⟨k + 1, by omega, by go_num, updV vs kk (.slice (some ⟨wo.heap.size + 1, 0, none⟩) (4) (4)), ?_⟩
                show FillSt _ _ _ _ _ _
                rw [HTK.out, fillT_snoc, HT.out, show ((key, bs).1 % 12).toNat = kk by simp [hkk]]
                exact HS.out
              case measure => simp [intOf]; omega
      · have h4' : bs.length ≤ 4 := by omega
        by_cases hz : kk = 0
        · subst hz
          have HT : Hid (tgt (key, bs) = []) := by show _ = _; unfold tgt; rw [if_pos (by simpa using hkk)]
          go_wp2_with (at_make; refine wpList_make_own _ rfl _ _ 27 rfl (wo.heap.size + 1) 3 i0 _ 1 Yba.underlying27 hi hz0 hz1 _ _ _ (bs.length) rfl rfl (by omega) (by rw [hz2]; omega) (by unfold maxLen; omega) (by simp) ?_; intro w1 hown hgrow; simp only [World.size_alloc] at hown; obtain ⟨hB1, hg1⟩ := mk_facts hgrow hown; have c1 := (hB1.cell (p := ⟨hb, 0, none⟩) (show hb < wo.heap.size by omega)).trans (cell_at HF.out.has (hasA_at _ 0 (by omega))); have c2 := (hB1.cell (p := ⟨ib, 0, none⟩) (show ib < wo.heap.size by omega)).trans (cell_at HF.out.idx (idxA_at _ 0 (by omega))); have c3 := (hB1.frozen (p := ⟨hb, 0, none⟩) (show hb < wo.heap.size by omega)).trans (frozen_of_row _ _ 0 _ _ HF.out.has); have c4 := (hB1.frozen (p := ⟨ib, 0, none⟩) (show ib < wo.heap.size by omega)).trans (frozen_of_row _ _ 0 _ _ HF.out.idx); have HS := hide2 (HF.out.step hh hib hne hB1 (k := 0) (by omega) (v := .slice (some ⟨wo.heap.size + 1, 0, none⟩) 0 (bs.length)) (l := []) ⟨wo.heap.size + 1, bs.length, rfl, by omega, hg1, by simp⟩); clear hgrow hown)
          go_roundw
          case rel =>
            refine ⟨k + 1, by omega, by go_num, updV vs 0 (.slice (some ⟨wo.heap.size + 1, 0, none⟩) 0 (bs.length)), ?_⟩
            show FillSt _ _ _ _ _ _
            rw [HTK.out, fillT_snoc, HT.out, show ((key, bs).1 % 12).toNat = 0 by simp [hkk]]
            exact HS.out
          case measure => simp [intOf]; omega
        · have hkp : 0 < kk := by omega
          have HT : Hid (tgt (key, bs) = tg kk bs) := by show _ = _; unfold tgt; rw [if_neg (by simp [hkk]; omega)]; simp [hkk, tg]
          go_wp2_with (at_make; refine wpList_make_own _ rfl _ _ 27 rfl (wo.heap.size + 1) 3 i0 _ 1 Yba.underlying27 hi hz0 hz1 _ _ _ (bs.length) rfl rfl (by omega) (by rw [hz2]; omega) (by unfold maxLen; omega) (by simp) ?_; intro w1 hown hgrow; simp only [World.size_alloc] at hown; obtain ⟨hB1, hg1⟩ := mk_facts hgrow hown)
          have e1 : (w1.cell? ⟨wo.heap.size, 1, none⟩ = some (.slice a bs.length cp)) := mk_cell hgrow
          go_loopw [10, 11] (fun v q wr => ∃ j : Nat, j ≤ bs.length ∧ q = .int .i64 j ∧ v = .slice (some ⟨wo.heap.size + 1, 0, none⟩) j (bs.length) ∧
              Hid (wr.ownsRow (wo.heap.size + 1) 3 1 (.slice (some ⟨wo.heap.size + 1, 0, none⟩) j (bs.length)) j (((tg kk bs).take j).map fun (y : Nat) => Value.int .i64 (y : Int))) ∧ Below (wo.heap.size + 1) w1 wr) (fun _ q _ => bs.length - (intOf q).toNat)
          case atStart => exact ⟨0, Nat.zero_le _, rfl, rfl, hown, Below.refl _ _⟩
          case round =>
            obtain ⟨j, hj, rfl, rfl, hoj, hBj⟩ := hrel
            have hsz1 : wo.heap.size + 1 < wr.heap.size := Nat.lt_of_lt_of_le hg1 hBj.size
            by_cases hjl : j < bs.length
            · obtain ⟨bv, hbv⟩ : ∃ bv, bv = bs[j]?.getD 0 := ⟨_, rfl⟩
              obtain ⟨y, hy⟩ : ∃ y : Nat, bv % (kk : Int) = (y : Int) := ⟨(bv % (kk : Int)).toNat, by have := Int.emod_nonneg bv (show (kk : Int) ≠ 0 by omega); omega⟩
              obtain ⟨tb, to, rfl, htbs, hcb⟩ : ∃ tb to, a = some ⟨tb, to, none⟩ ∧ tb < Bs ∧ ∀ q, q < bs.length → wo.cell? ⟨tb, to + q, none⟩ = some (.int .u8 (bs.getD q 0)) := by
                rcases hbt.out with h | h
                · omega
                · exact h
              have hjb : j < bs.length := by omega
              have htb : tb < wo.heap.size := block_lt_of_cell (hcb j hjb)
              have g1 : wr.cell? ⟨tb, to + j, none⟩ = some (.int .u8 bv) := (hBj.cell (p := ⟨tb, to + j, none⟩) (show tb < wo.heap.size + 1 by omega)).trans ((hB1.cell (p := ⟨tb, to + j, none⟩) htb).trans ((hcb j hjb).trans (by rw [List.getD_eq_getElem?_getD, hbv])))
              have g2 : wr.cell? ⟨wo.heap.size, 1, none⟩ = some (.slice (some ⟨tb, to, none⟩) bs.length cp) := (hBj.cell (p := ⟨wo.heap.size, 1, none⟩) (show wo.heap.size < wo.heap.size + 1 by omega)).trans e1
              have hbj : 0 ≤ bv ∧ bv ≤ 255 := by rw [hbv]; exact hrb j
              have HTK : Hid (((tg kk bs).take (j + 1)).map (fun (y : Nat) => Value.int .i64 (y : Int)) = ((tg kk bs).take j).map (fun (y : Nat) => Value.int .i64 (y : Int)) ++ [.int .i64 (y : Int)]) := by
                exact tg_succ kk bs j y hjb (by omega) (by rw [← hbv]; exact hy)
              clear hcb e1 hbt hbv hjb
              go_wp2_with (at_builtin; refine wpList_append_fits _ rfl _ _ 27 rfl (wo.heap.size + 1) 3 i0 1 Yba.underlying27 hi hz1 (wo.heap.size + 1) _ (bs.length) _ rfl (hoj.out.alloc _) ⟨wr.heap.size, 0, none⟩ 1 1 [.int .i64 (y : Int)] rfl rfl (cell_one_new _ _ _) (by intro u hu; simp at hu; subst hu; rfl) (by omega) ?_; intro w3 hown3 hgrow3; have hB3 : Below (wo.heap.size + 1) w1 w3 := (hBj.alloc (by omega) _).grown hgrow3 (by simp; omega) (fun q hq => Nat.le_of_eq (Option.some.inj hq)); clear hgrow3)
              go_roundw
              case rel =>
                refine ⟨j + 1, by omega, by go_num, rfl, ?_, hB3⟩
                show World.ownsRow _ _ _ _ _ _ _
                rw [HTK.out]; exact hown3
              case measure => simp [intOf]; omega
            · obtain rfl : j = bs.length := by omega
              have hBw : Below wo.heap.size wo wr := hB1.trans (hBj.mono (by omega))
              have c1 := (hBw.cell (p := ⟨hb, kk, none⟩) (show hb < wo.heap.size by omega)).trans (cell_at HF.out.has (hasA_at _ kk (by omega)))
              have c2 := (hBw.cell (p := ⟨ib, kk, none⟩) (show ib < wo.heap.size by omega)).trans (cell_at HF.out.idx (idxA_at _ kk (by omega)))
              have c3 := (hBw.frozen (p := ⟨hb, kk, none⟩) (show hb < wo.heap.size by omega)).trans (frozen_of_row _ _ kk _ _ HF.out.has)
              have c4 := (hBw.frozen (p := ⟨ib, kk, none⟩) (show ib < wo.heap.size by omega)).trans (frozen_of_row _ _ kk _ _ HF.out.idx)
              have hll : (tg kk bs).length = bs.length := by rw [tg_length]; omega
              have HS := hide2 (HF.out.step hh hib hne hBw (k := kk) (by omega) (v := .slice (some ⟨wo.heap.size + 1, 0, none⟩) (bs.length) (bs.length)) (l := tg kk bs) ⟨wo.heap.size + 1, bs.length, by rw [hll], by omega, hsz1, fun q hq => by
                rw [hll] at hq
                rw [hoj.out.cellAt q (by omega), List.take_of_length_le (by omega)]
                exact tg_at kk bs q (by rw [hll]; omega)⟩)
              clear hll e1 hbt
              go_wp2
              go_roundw
              case rel =>
                refine ⟨k + 1, by omega, by go_num, updV vs kk (.slice (some ⟨wo.heap.size + 1, 0, none⟩) (bs.length) (bs.length)), ?_⟩
                show FillSt _ _ _ _ _ _
                rw [HTK.out, fillT_snoc, HT.out, show ((key, bs).1 % 12).toNat = kk by simp [hkk]]
                exact HS.out
              case measure => simp [intOf]; omega
    · obtain rfl : k = len := by omega
      go_wp2
      go_end0
      refine ⟨rfl, vs, ?_⟩
      have := HF.out
      rwa [List.take_of_length_le (by omega)] at this

/-- What a slice of entries is known by. -/
def EntRow (w : World) (Bs : Nat) (a : Option Addr) (len : Nat) (es : List Ent) : Prop :=
  es.length = len ∧ (len = 0 ∨ ∃ eb eo, a = some ⟨eb, eo, none⟩ ∧ eb < Bs ∧ ∀ j, j < len → ∃ e, es[j]? = some e ∧ EntAt w Bs eb (eo + j * 2) e)
theorem EntAt.below {w w' : World} {Bs b o : Nat} {e : Ent} (h : EntAt w Bs b o e) (hb : Below Bs w w') (hlt : b < Bs) : EntAt w' Bs b o e := by
  obtain ⟨h0, h1, h2, h3, h4, a, cap, h5, h6⟩ := h
  refine ⟨h0, h1, h2, h3, (hb.cell (p := ⟨b, o, none⟩) hlt).trans h4, a, cap, (hb.cell (p := ⟨b, o + 1, none⟩) hlt).trans h5, ?_⟩
  rcases h6 with h | ⟨tb, to, h7, h8, h9⟩
  · exact .inl h
  · exact .inr ⟨tb, to, h7, h8, fun q hq => (hb.cell (p := ⟨tb, to + q, none⟩) h8).trans (h9 q hq)⟩
theorem EntRow.below {w w' : World} {Bs : Nat} {a : Option Addr} {len : Nat} {es : List Ent} (h : EntRow w Bs a len es) (hb : Below Bs w w') : EntRow w' Bs a len es := by
  refine ⟨h.1, ?_⟩
  rcases h.2 with h | ⟨eb, eo, ha, hlt, hc⟩
  · exact .inl h
  · refine .inr ⟨eb, eo, ha, hlt, fun j hj => ?_⟩
    obtain ⟨e, he, hat⟩ := hc j hj
    exact ⟨e, he, hat.below hb hlt⟩

theorem fill_empty (a : Option Addr) (cap : Nat) (p q : Value) (w : World) :
    Calls Yba.prog 6 #[.slice a 0 cap, p, q] w fun e w' => e = .returned (.tuple #[]) ∧ w' = w := by
  go_enter Yba.func6, Yba.ntmps6
  go_wp2
  refine wp_loop_rounds 1 ?_
  rw [rounds_succ]
  go_wp2
  go_end0
  exact ⟨rfl, rfl⟩

theorem fill_any (a : Option Addr) (len cap hb ib Bs : Nat) (es : List Ent) (w : World) (hm : len ≤ 1048576) (hh : hb < w.heap.size) (hib : ib < w.heap.size) (hne : hb ≠ ib) (hBh : Bs ≤ hb) (hBi : Bs ≤ ib)
    (hes : EntRow w Bs a len es) (v0 : Nat → Value) (hst : FillSt w w hb ib tab0 v0) :
    Calls Yba.prog 6 #[.slice a len cap, .pointer (some ⟨hb, 0, none⟩), .pointer (some ⟨ib, 0, none⟩)] w fun e w' => e = .returned (.tuple #[]) ∧ ∃ vs, FillSt w w' hb ib (fillT tab0 es) vs := by
  rcases hes.2 with h0 | ⟨eb, eo, rfl, hlt, hc⟩
  · subst h0
    have hes0 : es = [] := List.eq_nil_of_length_eq_zero hes.1
    subst hes0
    refine (fill_empty a cap _ _ w).mono ?_
    rintro e w' ⟨rfl, rfl⟩
    exact ⟨rfl, v0, hst⟩
  · exact fill_some eb eo len cap hb ib es w hes.1 hm hh hib hne Bs hBh hBi hlt hc v0 hst
end Go.Proofs.Ybulkdjhw.A
