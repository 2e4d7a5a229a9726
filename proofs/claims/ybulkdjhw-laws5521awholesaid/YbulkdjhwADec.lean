import Derived.Test.YbulkdjhwASmall
import Derived.WalkKit
import Derived.WalkSpells
import Derived.BigQuiet
import Derived.Deep.QuietTactic
import Derived.Laws.CopyOwn
import Derived.Laws.ResultCell
import Derived.Maps.OwnSet
namespace Go.Proofs.Ybulkdjhw.A
open Go.RowKit
set_option linter.unusedVariables false
open Go.Maps (Keyed IsMap Tidy)

/-- Every element reads as itself. -/
def heldR (v : Value) : Option (DataW Value × List MemPlace) := some (.held v, [])
theorem lawK : Keyed Yba.prog 21 := Maps.int_keyed Yba.underlying21
theorem zero22 (w : World) : (zeroValue 22).run Yba.prog w = .ok (.slice none 0 0) w := by kernel_rfl
abbrev kI (r : Int) : Lit := .int .i32 r
theorem keyI (r : Int) (h0 : -2147483648 ≤ r) (h1 : r ≤ 2147483647) : keyOf Yba.prog 21 (.int .i32 r) = some (kI r) := Maps.keyOf_int_mk Yba.underlying21 (WalkArith.wf_i32 (by omega))

/-- The slice at place i holds the runes of the targets. -/
def Targets (w : World) (B : Nat) (v : Value) (l : List Nat) : Prop :=
  ∃ g cap, v = .slice (some ⟨g, 0, none⟩) l.length cap ∧ g < B ∧ ∀ j, j < l.length → w.cell? ⟨g, j, none⟩ = some (.int .i32 (al (l.getD j 0)))
theorem Targets.below {w w' : World} {B : Nat} {v : Value} {l : List Nat} (h : Targets w B v l) (hb : Below B w w') : Targets w' B v l := by
  obtain ⟨g, cap, hv, hg, hc⟩ := h
  exact ⟨g, cap, hv, hg, fun j hj => (hb.cell (p := ⟨g, j, none⟩) hg).trans (hc j hj)⟩

/-- The map value 'm' holds the table t: at alpha's runes, and nowhere else. -/
structure MapIs (w : World) (B : Nat) (m : Option Nat) (t : Tab) (vs : Nat → Value) : Prop where
  atNil : m = none → ∀ i, t i = none
  atMap : ∀ b, m = some b → b < B ∧ ∃ n D, n < maxLen ∧ w.ownsMap Yba.prog 21 heldR b n D ∧ Maps.size D = ((List.range 12).filter fun i => (t i).isSome).length ∧
    (∀ i, i < 12 → Maps.has D (kI (al i)) = (t i).isSome ∧ ((t i).isSome → D.atKey (kI (al i)) (.held (.slice none 0 0)) = .held (vs i))) ∧
    ∀ r, (∀ i, i < 12 → al i ≠ r) → Maps.has D (kI r) = false
  rows : ∀ i l, t i = some l → Targets w B (vs i) l
theorem MapIs.below {w w' : World} {B : Nat} {m : Option Nat} {t : Tab} {vs : Nat → Value} (h : MapIs w B m t vs) (hb : Below B w w') : MapIs w' B m t vs where
  atNil := h.atNil
  atMap := fun b hm => by
    obtain ⟨hlt, n, D, hn, ⟨es, clock, hbk, r⟩, q⟩ := h.atMap b hm
    exact ⟨hlt, n, D, hn, ⟨es, clock, (hb.block b hlt).trans hbk, r⟩, q⟩
  rows := fun i l hl => (h.rows i l hl).below hb

theorem held_at {D : DataW Value} {kl : Lit} {v : Value} {ps : List MemPlace} (h : heldR v = some (D.atKey kl (.held (.slice none 0 0)), ps)) : D.atKey kl (.held (.slice none 0 0)) = .held v := by
  unfold heldR at h
  simp only [Option.some.injEq, Prod.mk.injEq] at h
  exact h.1.symm

def valAt (t : Tab) (vs : Nat → Value) (i : Nat) : Value := if (t i).isSome then vs i else .slice none 0 0

theorem MapIs.look {w : World} {B : Nat} {m : Option Nat} {t : Tab} {vs : Nat → Value} (h : MapIs w B m t vs) {i : Nat} (hi : i < 12) :
    (Instr.lookup 37 (.map m) (.int .i32 (al i)) true).run Yba.prog w = .ok (.tuple #[valAt t vs i, .bool (t i).isSome]) w := by
  have hb := al_bd i hi
  have hk := keyI (al i) (by omega) (by omega)
  unfold valAt
  cases m with
  | none =>
    rw [h.atNil rfl i]
    have := Maps.look_nil (w := w) true lawK Yba.underlying37 (zero22 w) hk
    simpa using this
  | some b =>
    obtain ⟨_, n, D, _, hown, _, hat, _⟩ := h.atMap b rfl
    obtain ⟨h1, h2⟩ := hat i hi
    obtain ⟨v, ps, hrun, hv⟩ := hown.look_ok lawK Yba.underlying37 (zero22 w) (zd := .held (.slice none 0 0)) rfl hk
    rw [hrun, h1]
    have hv' := held_at hv
    cases hs : (t i).isSome with
    | true => rw [h2 hs] at hv'; simp only [DataW.held.injEq] at hv'; simp [hv']
    | false =>
      rw [Maps.atKey_of_not_has (by rw [h1, hs]) _] at hv'
      simp only [DataW.held.injEq] at hv'; simp [← hv']
theorem MapIs.miss {w : World} {B : Nat} {m : Option Nat} {t : Tab} {vs : Nat → Value} (h : MapIs w B m t vs) {r : Int} (h0 : -2147483648 ≤ r) (h1 : r ≤ 2147483647) (hr : ∀ i, i < 12 → al i ≠ r) :
    (Instr.lookup 37 (.map m) (.int .i32 r) true).run Yba.prog w = .ok (.tuple #[.slice none 0 0, .bool false]) w := by
  have hk := keyI r h0 h1
  cases m with
  | none => simpa using Maps.look_nil (w := w) true lawK Yba.underlying37 (zero22 w) hk
  | some b =>
    obtain ⟨_, n, D, _, hown, _, _, hat⟩ := h.atMap b rfl
    obtain ⟨v, ps, hrun, hv⟩ := hown.look_ok lawK Yba.underlying37 (zero22 w) (zd := .held (.slice none 0 0)) rfl hk
    rw [hrun, hat r hr]
    have hv' := held_at hv
    rw [Maps.atKey_of_not_has (hat r hr) _] at hv'
    simp only [DataW.held.injEq] at hv'
    rw [← hv']

theorem cells_new_at {w : World} {C : Array Value} {t : TypeId} {n : Nat} {vs : List Value} (hn : w.heap.size = n) (hC : C = vs.toArray) : ∀ j u, vs[j]? = some u → (w.alloc (.cells C t)).cell? ((⟨n, 0, none⟩ : Addr).add j) = some u := by
  subst hn; subst hC
  intro j u hj
  rw [Addr.add_lit, Nat.zero_add, World.cell?_alloc_mark, List.getElem?_toArray, hj]
theorem RowR.alloc {w : World} {B : Nat} {v : Value} {L : List Int} (h : RowR w B v L) (o : Obj) : RowR (w.alloc o) B v L := World.ownsRow.alloc h o
theorem rowR_snoc {w : World} {B : Nat} {v : Value} {L : List Int} {n : Nat} {M : List Int} (hn : n = M.length) (h : w.ownsRow B 21 1 v (L.length + n) (L.map (Value.int .i32) ++ M.map (Value.int .i32))) : RowR w B v (L ++ M) := by
  subst hn
  have e : (L ++ M).length = L.length + M.length := List.length_append
  unfold RowR
  rw [e, List.map_append]; exact h
theorem own_lt {w : World} {B : Nat} {v : Value} {L : List Int} (h : RowR w B v L) : ∀ k, v.ownBlock = some k → B ≤ k := fun k hk => (World.ownsRow.lt h k hk).1

set_option maxHeartbeats 1000000 in
theorem dec_hangul (r : Int) (n : Value) (mx : Value) (B : Nat) (v : Value) (L : List Int) (w : World) (hr : isH r = true) (hB : B ≤ w.heap.size) (hv : RowR w B v L) (hlen : L.length ≤ 1099511627776) :
    Calls Yba.prog 11 #[n, v, .int .i32 r, mx] w fun e w' => ∃ v', e = .returned v' ∧ RowR w' B v' (L ++ jamoL r) ∧ Below B w w' := by
  obtain ⟨i0, hi, hz0, hz1, hz2⟩ := info_parts info21
  have hb : 44032 ≤ r ∧ r < 55204 := by unfold isH at hr; simpa using hr
  obtain ⟨hb0, hb1⟩ := hb
  clear hr
  by_cases ht : (r - 44032) % 28 = 0
  · have HL : Hid (jamoL r = [4352 + (r - 44032) / 588, 4449 + (r - 44032) % 588 / 28]) := by
      show _ = _; unfold jamoL; rw [if_pos ht]; rfl
    go_enter Yba.func11, Yba.ntmps11
    go_wp2_with (at_builtin; go_must (refine wpList_append_own _ rfl _ _ 22 rfl B 21 i0 (.int .i32 0) 1 4 Yba.underlying22 hi hz0 hz1 hz2 rfl (by decide) _ _ _ rfl (hv.alloc _) ⟨_, 0, none⟩ 2 2 ([4352 + (r - 44032) / 588, 4449 + (r - 44032) % 588 / 28].map (Value.int .i32)) rfl rfl (cells_new_at rfl rfl) (ints_oneCell _ _) (by unfold maxLen; omega) (by omega) (by simp; omega) ?_); intro v' w1 hown hgrow _)
    go_ret
    refine ⟨v', rfl, ?_, ((Below.refl _ _).alloc hB _).grown hgrow (by simp; omega) (fun k hk => own_lt hv k hk)⟩
    rw [HL.out]
    exact rowR_snoc rfl hown
  · have HL : Hid (jamoL r = [4352 + (r - 44032) / 588, 4449 + (r - 44032) % 588 / 28] ++ [4519 + (r - 44032) % 28]) := by
      show _ = _; unfold jamoL; rw [if_neg ht]
    go_enter Yba.func11, Yba.ntmps11
    go_wp2_with (first
      | (at_builtin; refine wpList_append_own _ rfl (.tmp 23) (.tmp 31) 22 rfl B 21 i0 (.int .i32 0) 1 4 Yba.underlying22 hi hz0 hz1 hz2 rfl (by decide) _ _ _ rfl (hv.alloc _) ⟨_, 0, none⟩ 2 2 ([4352 + (r - 44032) / 588, 4449 + (r - 44032) % 588 / 28].map (Value.int .i32)) rfl rfl (cells_new_at rfl rfl) (ints_oneCell _ _) (by unfold maxLen; omega) (by omega) (by simp; omega) ?_; intro v1 w1 hown1 hgrow1 _; have hv1 := rowR_snoc (M := [4352 + (r - 44032) / 588, 4449 + (r - 44032) % 588 / 28]) rfl hown1; have hB1 : Below B w w1 := ((Below.refl _ _).alloc hB _).grown hgrow1 (by simp; omega) (fun k hk => own_lt hv k hk); have hs1 := hB1.size; have hl1 : (L ++ [4352 + (r - 44032) / 588, 4449 + (r - 44032) % 588 / 28]).length = L.length + 2 := List.length_append; clear hown1 hgrow1)
      | (at_builtin; refine wpList_append_own _ rfl (.tmp 37) (.tmp 40) 22 rfl B 21 i0 (.int .i32 0) 1 4 Yba.underlying22 hi hz0 hz1 hz2 rfl (by decide) _ _ _ rfl (hv1.alloc _) ⟨_, 0, none⟩ 1 1 ([4519 + (r - 44032) % 28].map (Value.int .i32)) rfl rfl (cells_new_at rfl rfl) (ints_oneCell _ _) (by unfold maxLen; omega) (by omega) (by simp; omega) ?_; intro v2 w2 hown2 hgrow2 _))
    go_ret
    refine ⟨v2, rfl, ?_, (hB1.alloc (by omega) _).grown hgrow2 (by simp; omega) (fun k hk => own_lt hv1 k hk)⟩
    rw [HL.out, ← List.append_assoc]
    exact rowR_snoc rfl hown2

set_option maxHeartbeats 1000000 in
theorem dec_miss (r : Int) (nb : Nat) (mc mx : Option Nat) (c x : Tab) (vc vx : Nat → Value) (B : Nat) (v : Value) (L : List Int) (w : World) (hr : isH r = false) (h0 : -2147483648 ≤ r) (h1 : r ≤ 2147483647)
    (hlc : (Instr.lookup 37 (.map mc) (.int .i32 r) true).run Yba.prog w = .ok (.tuple #[.slice none 0 0, .bool false]) w) (hlx : (Instr.lookup 37 (.map mx) (.int .i32 r) true).run Yba.prog w = .ok (.tuple #[.slice none 0 0, .bool false]) w)
    (hn : w.cell? ⟨nb, 1, none⟩ = some (.map mc)) (hB : B ≤ w.heap.size) (hv : RowR w B v L) (hlen : L.length ≤ 1099511627776) :
    Calls Yba.prog 11 #[.pointer (some ⟨nb, 0, none⟩), v, .int .i32 r, .map mx] w fun e w' => ∃ v', e = .returned v' ∧ RowR w' B v' (L ++ [r]) ∧ Below B w w' := by
  obtain ⟨i0, hi, hz0, hz1, hz2⟩ := info_parts info21
  by_cases hlow : r < 44032
  · by_cases hwr : -2147439616 ≤ r
    · go_enter Yba.func11, Yba.ntmps11
      go_wp2_with (at_builtin; refine wpList_append_own _ rfl _ _ 22 rfl B 21 i0 (.int .i32 0) 1 4 Yba.underlying22 hi hz0 hz1 hz2 rfl (by decide) _ _ _ rfl (hv.alloc _) ⟨_, 0, none⟩ 1 1 ([r].map (Value.int .i32)) rfl rfl (cells_new_at rfl rfl) (ints_oneCell _ _) (by unfold maxLen; omega) (by omega) (by simp; omega) ?_; intro v' w1 hown hgrow _)
      go_ret
      exact ⟨v', rfl, rowR_snoc rfl hown, ((Below.refl _ _).alloc hB _).grown hgrow (by simp; omega) (fun k hk => own_lt hv k hk)⟩
    · have hq : 11172 ≤ wrap32 (r - 44032) := by unfold wrap32; omega
      go_enter Yba.func11, Yba.ntmps11
      go_wp2_with (at_builtin; refine wpList_append_own _ rfl _ _ 22 rfl B 21 i0 (.int .i32 0) 1 4 Yba.underlying22 hi hz0 hz1 hz2 rfl (by decide) _ _ _ rfl (hv.alloc _) ⟨_, 0, none⟩ 1 1 ([r].map (Value.int .i32)) rfl rfl (cells_new_at rfl rfl) (ints_oneCell _ _) (by unfold maxLen; omega) (by omega) (by simp; omega) ?_; intro v' w1 hown hgrow _)
      go_ret
      exact ⟨v', rfl, rowR_snoc rfl hown, ((Below.refl _ _).alloc hB _).grown hgrow (by simp; omega) (fun k hk => own_lt hv k hk)⟩
  · have hhi : 55204 ≤ r := by unfold isH at hr; simp at hr; omega
    go_enter Yba.func11, Yba.ntmps11
    go_wp2_with (at_builtin; refine wpList_append_own _ rfl _ _ 22 rfl B 21 i0 (.int .i32 0) 1 4 Yba.underlying22 hi hz0 hz1 hz2 rfl (by decide) _ _ _ rfl (hv.alloc _) ⟨_, 0, none⟩ 1 1 ([r].map (Value.int .i32)) rfl rfl (cells_new_at rfl rfl) (ints_oneCell _ _) (by unfold maxLen; omega) (by omega) (by simp; omega) ?_; intro v' w1 hown hgrow _)
    go_ret
    exact ⟨v', rfl, rowR_snoc rfl hown, ((Below.refl _ _).alloc hB _).grown hgrow (by simp; omega) (fun k hk => own_lt hv k hk)⟩

def DecOk (c x : Tab) (nb : Nat) (mc mx : Option Nat) (vc vx : Nat → Value) (B i : Nat) : Prop :=
  ∀ (v : Value) (L : List Int) (w : World), w.cell? ⟨nb, 1, none⟩ = some (.map mc) → MapIs w B mc c vc → MapIs w B mx x vx → B ≤ w.heap.size → RowR w B v L → L.length + (ex c x i).length ≤ 1099511627776 →
    Calls Yba.prog 11 #[.pointer (some ⟨nb, 0, none⟩), v, .int .i32 (al i), .map mx] w fun e w' => ∃ v', e = .returned v' ∧ RowR w' B v' (L ++ ex c x i) ∧ Below B w w'

theorem take_flat (f : Nat → List Int) (l : List Nat) (k : Nat) (hk : k < l.length) : (l.take (k + 1)).flatMap f = (l.take k).flatMap f ++ f (l.getD k 0) := by
  rw [List.take_succ_eq_append_getElem hk, List.flatMap_append]
  simp [List.getElem?_eq_getElem hk]
theorem take_flat_le (f : Nat → List Int) (l : List Nat) (k : Nat) : ((l.take k).flatMap f).length ≤ (l.flatMap f).length := by
  conv => rhs; rw [← List.take_append_drop k l]
  rw [List.flatMap_append, List.length_append]; omega

set_option maxHeartbeats 1000000 in
theorem dec_map (c x : Tab) (hc : c.ok) (hx : x.ok) (nb : Nat) (mc mx : Option Nat) (vc vx : Nat → Value) (B i : Nat) (hnb : nb < B) (hi9 : i < 9) (l : List Nat) (hu : useT c x i = some l)
    (ih : Hid (∀ j, j < i → DecOk c x nb mc mx vc vx B j)) : DecOk c x nb mc mx vc vx B i := by
  intro v L w hn hMc hMx hB hv hlen
  have hex := ex_mapped hc hx hi9 hu
  rw [hex] at hlen ⊢
  have hlt := (use_ok hc hx i l hu).2.2
  have hl4 := (use_ok hc hx i l hu).2.1
  have hbd := al_bd i (by omega)
  have hih := isH_al i (by omega)
  have hlow : al i < 44032 := by
    rw [decide_eq_false (by omega)] at hih
    unfold isH at hih; simp at hih; omega
  -- the slice that the two look-ups come to
  obtain ⟨g, cap, hd, hgB, hcell⟩ : ∃ g cap, (if (c i).isSome then vc i else vx i) = .slice (some ⟨g, 0, none⟩) l.length cap ∧ g < B ∧ ∀ j, j < l.length → w.cell? ⟨g, j, none⟩ = some (.int .i32 (al (l.getD j 0))) := by
    unfold useT at hu
    rw [if_pos hi9] at hu
    cases hci : c i with
    | some l' => rw [hci] at hu; cases hu; exact hMc.rows i l hci
    | none => rw [hci] at hu; exact hMx.rows i l hu
  have HC : Hid (∀ j, j < l.length → w.cell? ⟨g, j, none⟩ = some (.int .i32 (al (l.getD j 0)))) := hcell
  have HM : Hid (MapIs w B mc c vc ∧ MapIs w B mx x vx) := ⟨hMc, hMx⟩
  have hlc := hMc.look (i := i) (by omega)
  have hlx := hMx.look (i := i) (by omega)
  have hN : Hid (w.cell? ⟨nb, 1, none⟩ = some (.map mc)) := hn
  have HLT : Hid (∀ j ∈ l, j < i) := hlt
  obtain ⟨a, ha⟩ : ∃ a, a = al i := ⟨_, rfl⟩
  have HA : Hid (a = al i) := ha
  rw [← ha] at hlc hlx hbd hlow ⊢
  clear ha hih hcell hMc hMx hlt hex
  cases hci : (c i).isSome with
  | true =>
    rw [hci] at hlc hd
    simp only [if_true] at hd
    unfold valAt at hlc
    rw [hci] at hlc
    simp only [if_true] at hlc
    rw [hd] at hlc
    clear hlx hd hci hu
    go_enter Yba.func11, Yba.ntmps11
    go_wp2
    go_loopw [1, 68] (fun u q wr => ∃ k : Nat, k ≤ l.length ∧ q = .int .i64 k ∧ Hid (RowR wr B u (L ++ (l.take k).flatMap (ex c x))) ∧ Below B w wr) (fun _ q _ => l.length - (intOf q).toNat)
    case atStart => exact ⟨0, Nat.zero_le _, rfl, (by show RowR _ _ _ _; simpa using hv), Below.refl _ _⟩
    case round =>
      rename_i u _
      obtain ⟨k, hk, rfl, hok, hBk⟩ := hrel
      by_cases hltk : k < l.length
      · obtain ⟨y, hy⟩ : ∃ y, y = l.getD k 0 := ⟨_, rfl⟩
        have hyl : y ∈ l := by rw [hy, List.getD_eq_getElem?_getD, List.getElem?_eq_getElem hltk]; exact List.getElem_mem hltk
        have hyi := HLT.out y hyl
        have hck : wr.cell? ⟨g, k, none⟩ = some (.int .i32 (al y)) := by rw [hy]; exact (hBk.cell (p := ⟨g, k, none⟩) hgB).trans (HC.out k hltk)
        have HT : Hid ((l.take (k + 1)).flatMap (ex c x) = (l.take k).flatMap (ex c x) ++ ex c x y) := by show _ = _; rw [hy]; exact take_flat _ l k hltk
        have hle := take_flat_le (ex c x) l (k + 1)
        have hlk : (L ++ (l.take k).flatMap (ex c x)).length + (ex c x y).length ≤ 1099511627776 := by
          rw [HT.out, List.length_append] at hle
          rw [List.length_append]; omega
        have HLK := (show Hid _ from hlk)
        clear hle hlk hy
        go_wp2_with fail
        refine (ih.out y hyi _ _ _ ((hBk.cell (p := ⟨nb, 1, none⟩) hnb).trans hN.out) (HM.out.1.below hBk) (HM.out.2.below hBk) (Nat.le_trans hB hBk.size) hok.out HLK.out).mono ?_
        rintro e w1 ⟨v1, rfl, hv1, hB1⟩
        go_wp2
        go_roundw
        case rel =>
          refine ⟨k + 1, by omega, by go_num, ?_, hBk.trans hB1⟩
          show RowR _ _ _ _
          rw [HT.out, ← List.append_assoc]; exact hv1
        case measure => simp [intOf]; omega
      · obtain rfl : k = l.length := by omega
        go_wp2
        go_ret
        refine ⟨_, rfl, ?_, hBk⟩
        have := hok.out
        rwa [List.take_of_length_le (Nat.le_refl _)] at this
  | false =>
    have hxi : (x i).isSome = true := by
      unfold useT at hu
      rw [if_pos hi9] at hu
      cases hc' : c i with
      | some l' => rw [hc'] at hci; cases hci
      | none => rw [hc'] at hu; have hu' : x i = some l := hu; rw [hu']; rfl
    rw [hci] at hlc hd
    simp only [Bool.false_eq_true, if_false] at hd
    unfold valAt at hlc hlx
    rw [hci] at hlc
    rw [hxi] at hlx
    simp only [Bool.false_eq_true, if_false] at hlc
    simp only [if_true] at hlx
    rw [hd] at hlx
    clear hd hci hu hxi
    go_enter Yba.func11, Yba.ntmps11
    go_wp2
    go_loopw [1, 68] (fun u q wr => ∃ k : Nat, k ≤ l.length ∧ q = .int .i64 k ∧ Hid (RowR wr B u (L ++ (l.take k).flatMap (ex c x))) ∧ Below B w wr) (fun _ q _ => l.length - (intOf q).toNat)
    case atStart => exact ⟨0, Nat.zero_le _, rfl, (by show RowR _ _ _ _; simpa using hv), Below.refl _ _⟩
    case round =>
      rename_i u _
      obtain ⟨k, hk, rfl, hok, hBk⟩ := hrel
      by_cases hltk : k < l.length
      · obtain ⟨y, hy⟩ : ∃ y, y = l.getD k 0 := ⟨_, rfl⟩
        have hyl : y ∈ l := by rw [hy, List.getD_eq_getElem?_getD, List.getElem?_eq_getElem hltk]; exact List.getElem_mem hltk
        have hyi := HLT.out y hyl
        have hck : wr.cell? ⟨g, k, none⟩ = some (.int .i32 (al y)) := by rw [hy]; exact (hBk.cell (p := ⟨g, k, none⟩) hgB).trans (HC.out k hltk)
        have HT : Hid ((l.take (k + 1)).flatMap (ex c x) = (l.take k).flatMap (ex c x) ++ ex c x y) := by show _ = _; rw [hy]; exact take_flat _ l k hltk
        have hle := take_flat_le (ex c x) l (k + 1)
        have hlk : (L ++ (l.take k).flatMap (ex c x)).length + (ex c x y).length ≤ 1099511627776 := by
          rw [HT.out, List.length_append] at hle
          rw [List.length_append]; omega
        have HLK := (show Hid _ from hlk)
        clear hle hlk hy
        go_wp2_with fail
        refine (ih.out y hyi _ _ _ ((hBk.cell (p := ⟨nb, 1, none⟩) hnb).trans hN.out) (HM.out.1.below hBk) (HM.out.2.below hBk) (Nat.le_trans hB hBk.size) hok.out HLK.out).mono ?_
        rintro e w1 ⟨v1, rfl, hv1, hB1⟩
        go_wp2
        go_roundw
        case rel =>
          refine ⟨k + 1, by omega, by go_num, ?_, hBk.trans hB1⟩
          show RowR _ _ _ _
          rw [HT.out, ← List.append_assoc]; exact hv1
        case measure => simp [intOf]; omega
      · obtain rfl : k = l.length := by omega
        go_wp2
        go_ret
        refine ⟨_, rfl, ?_, hBk⟩
        have := hok.out
        rwa [List.take_of_length_le (Nat.le_refl _)] at this

/-- decompose at a rune of alpha: its expansion behind what was there. -/
theorem dec_alpha (c x : Tab) (hc : c.ok) (hx : x.ok) (nb : Nat) (mc mx : Option Nat) (vc vx : Nat → Value) (B : Nat) (hnb : nb < B) : ∀ i, i < 12 → DecOk c x nb mc mx vc vx B i := by
  intro i
  induction i using Nat.strongRecOn with
  | ind i ih =>
    intro hi
    by_cases h9 : i < 9
    · cases hu : useT c x i with
      | some l => exact dec_map c x hc hx nb mc mx vc vx B i hnb h9 l hu (fun j hj => ih j hj (by omega))
      | none =>
        intro v L w hn hMc hMx hB hv hlen
        have hb := al_bd i hi
        have hcx : c i = none ∧ x i = none := by
          unfold useT at hu
          rw [if_pos h9] at hu
          cases hc' : c i with
          | some l' => rw [hc'] at hu; cases hu
          | none => rw [hc'] at hu; exact ⟨rfl, hu⟩
        have h1 := hMc.look hi
        have h2 := hMx.look hi
        unfold valAt at h1 h2
        rw [hcx.1] at h1
        rw [hcx.2] at h2
        rw [ex_bare h9 hu] at hlen ⊢
        exact dec_miss (al i) nb mc mx c x vc vx B v L w (by rw [isH_al i hi]; simp; omega) (by omega) (by omega) h1 h2 hn hB hv (by omega)
    · intro v L w hn hMc hMx hB hv hlen
      rw [ex_hangul h9] at hlen ⊢
      exact dec_hangul (al i) _ _ B v L w (by rw [isH_al i hi]; simp; omega) hB hv (by omega)
end Go.Proofs.Ybulkdjhw.A
