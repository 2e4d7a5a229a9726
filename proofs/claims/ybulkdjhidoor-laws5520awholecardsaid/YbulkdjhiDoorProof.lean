import Derived.Test.YbulkdjhiDoorLaw
import Derived.Test.YbulkdjhiDoorTie
import Derived.Test.YbulkdjhiDoorCards
import Derived.ProofKit
import Derived.LaidMore
import Derived.OpenShut
import Derived.ShutString
import Derived.ChangeOld
import Derived.ChangeVars
import Derived.Stop.Joined
import Derived.SevenTiedAt
namespace Go.Proofs.YbulkdjhiDoor
open Go.ChangeShapes Go.WideShapes Go.ChangeAt Go.RowKit
open Go
set_option linter.unusedVariables false

theorem own : ownKnob Ybad.prog.godebug = none := by kernel_rfl
theorem laidOut : laidOutB Ybad.prog = true := by kernel_rfl
/-- The listed variable's name, off the given row. -/
abbrev nm : String := Rows.lawS5520AWholeSpec.vars.headD (String.ofList [])
theorem gRR : Ybad.prog.globalNamed nm = some 0 := by kernel_rfl
theorem tRR : (Ybad.prog.globals[0]?).map (·.type) = some 35 := by kernel_rfl
theorem cells34 : Ybad.prog.cellsOf 34 = 5 := by kernel_rfl
theorem cells35 : Ybad.prog.cellsOf 35 = 45 := by kernel_rfl
theorem cells3 : Ybad.prog.cellsOf 3 = 1 := by kernel_rfl
theorem cells5 : Ybad.prog.cellsOf 5 = 1 := by kernel_rfl
theorem cells27 : Ybad.prog.cellsOf 27 = 1 := by kernel_rfl
abbrev rrs : List (String × DataW Unit) := Rows.lawS5520AWholeRow.laid
theorem door_met (os : Os) (args : Array Value) : laidMetH Ybad.prog rrs ((World.doorLaid Ybad.prog 23 os).forCall (fun _ _ => 0) ⟨#[], args, []⟩).memory :=
  laidMetH_of_parts3 (fuel := 8) (laidMet_of_run' 8 (by kernel_rfl) (by kernel_rfl)) (by kernel_rfl) (by kernel_rfl)

def rowD {H : Type} (k : Nat) : DataW H := .agg [.lit (.int .i64 (tabG k)), .lit (.int .u8 (tabF k)), .lit (.int .u64 (tabLo k)), .lit (.int .u64 (tabHi k)), .lit (.int .u64 (tabSt k))]
def tabD {H : Type} : DataW H := .agg ((List.range 9).map rowD)
theorem tabD_eq : (Rows.laid_example_com_octetwise_octetwise_rateRanges : DataW Unit) = tabD := by kernel_rfl
theorem reads_tab {H : Type} (enc : TypeId × Value → H) (W : World) (sp : Nat → Bool) : DataW.trod enc Ybad.prog W 0 sp true 3 35 cellsRR.toList = some (tabD, []) := by kernel_rfl

theorem row_cells {H : Type} {enc : TypeId × Value → H} {W : World} {base : Nat} {sp : Nat → Bool} {held : Bool} {fuel k : Nat} {cs : List Value} {x : DataW H × List MemPlace}
    (h : DataW.trod enc Ybad.prog W base sp held fuel 34 cs = some x) (hx1 : x.1 = rowD k) : cs = rr k := by
  obtain ⟨xs, n, _, hx, hl, hn, hf⟩ := DataW.trod_struct Ybad.underlying34 h
  rw [cells34] at hl
  obtain ⟨c0, c1, c2, c3, c4, rfl⟩ : ∃ c0 c1 c2 c3 c4, cs = [c0, c1, c2, c3, c4] := by
    match cs, hl with
    | [a, b, c, d, e], _ => exact ⟨a, b, c, d, e, rfl⟩
  obtain ⟨y0, y1, y2, y3, y4, rfl⟩ : ∃ y0 y1 y2 y3 y4, xs = [y0, y1, y2, y3, y4] := by
    match xs, hn with
    | [a, b, c, d, e], _ => exact ⟨a, b, c, d, e, rfl⟩
  have h0 := hf 0 _ rfl
  have h1 := hf 1 _ rfl
  have h2 := hf 2 _ rfl
  have h3 := hf 3 _ rfl
  have h4 := hf 4 _ rfl
  obtain ⟨n0, e0, f0, _⟩ := DataW.trod_int Ybad.underlying3 h0
  obtain ⟨n1, e1, f1, _⟩ := DataW.trod_int Ybad.underlying5 h1
  obtain ⟨n2, e2, f2, _⟩ := DataW.trod_int Ybad.underlying27 h2
  obtain ⟨n3, e3, f3, _⟩ := DataW.trod_int Ybad.underlying27 h3
  obtain ⟨n4, e4, f4, _⟩ := DataW.trod_int Ybad.underlying27 h4
  rw [hx] at hx1
  simp only [List.map_cons, List.map_nil, f0, f1, f2, f3, f4, rowD, DataW.agg.injEq, List.cons.injEq, DataW.lit.injEq, Lit.int.injEq, true_and, and_true] at hx1
  obtain ⟨rfl, rfl, rfl, rfl, rfl⟩ := hx1
  simp [cells3] at e0
  simp [cells5] at e1
  simp [cells27] at e2 e3 e4
  rw [e0, e1, e2, e3, e4]
  rfl

theorem cells_of_laid {W : World} (h : laidMetH Ybad.prog rrs W) : W.var? Ybad.prog nm = some cellsRR := by
  rw [MakeChecks.laidMetH_plain _ _ _ (by kernel_rfl)] at h
  obtain ⟨ps, ⟨g, t, cs, fuel, p, q, hg, ht, hvar, hd, _, _⟩, _⟩ := h
  obtain rfl := Option.some.inj (gRR.symm.trans hg)
  obtain rfl := Option.some.inj (tRR.symm.trans ht)
  have hvar' : W.var? Ybad.prog nm = some cs := hvar
  rw [hvar']
  congr 1
  rw [tabD_eq] at hd
  obtain ⟨xs, m, _, hx, hl, hn, hel⟩ := DataW.trod_array Ybad.underlying35 hd
  rw [cells35] at hl
  rw [cells34] at hel
  simp only [tabD, Prod.mk.injEq, DataW.agg.injEq] at hx
  have key : ∀ i, i < 9 → (cs.toList.drop (i * 5)).take 5 = rr i := by
    intro i hi
    have h1 := hel i hi
    rw [List.getElem?_eq_getElem (by omega)] at h1
    refine row_cells (k := i) h1 ?_
    have h2 : (xs.map (·.1))[i]? = ((List.range 9).map rowD)[i]? := by rw [← hx.1]
    simp only [List.getElem?_map, List.getElem?_eq_getElem (show i < xs.length by omega), Option.map_some, List.getElem?_range hi] at h2
    exact Option.some.inj h2
  obtain ⟨l⟩ := cs
  simp only at key hl
  have k0 := key 0 (by omega)
  have k1 := key 1 (by omega)
  have k2 := key 2 (by omega)
  have k3 := key 3 (by omega)
  have k4 := key 4 (by omega)
  have k5 := key 5 (by omega)
  have k6 := key 6 (by omega)
  have k7 := key 7 (by omega)
  have k8 := key 8 (by omega)
  have split : l = (l.drop (0 * 5)).take 5 ++ (l.drop (1 * 5)).take 5 ++ (l.drop (2 * 5)).take 5 ++ (l.drop (3 * 5)).take 5 ++ (l.drop (4 * 5)).take 5 ++ (l.drop (5 * 5)).take 5 ++ (l.drop (6 * 5)).take 5 ++ (l.drop (7 * 5)).take 5 ++ (l.drop (8 * 5)).take 5 := by
    have e : ∀ i, (l.drop (i * 5)).take 5 ++ l.drop ((i + 1) * 5) = l.drop (i * 5) := fun i => by
      rw [show (i + 1) * 5 = i * 5 + 5 by omega, ← List.drop_drop]; exact List.take_append_drop 5 _
    have e9 : l.drop (9 * 5) = [] := List.drop_eq_nil_of_le (by omega)
    have e8 := e 8; rw [e9, List.append_nil] at e8
    rw [e8, List.append_assoc, e 7, List.append_assoc, e 6, List.append_assoc, e 5, List.append_assoc, e 4, List.append_assoc, e 3, List.append_assoc, e 2, List.append_assoc, e 1, e 0]
    simp
  rw [split, k0, k1, k2, k3, k4, k5, k6, k7, k8]
  rfl

theorem block_of_var {W : World} (h : W.var? Ybad.prog nm = some cellsRR) : ∃ t fr, W.heap[0]? = some (.cells cellsRR t fr) := by
  unfold World.var? at h
  rw [gRR] at h
  simp only [Option.bind_some] at h
  split at h
  · rename_i cs t fr hh
    obtain rfl := Option.some.inj h
    exact ⟨t, fr, hh⟩
  · cases h
theorem var_of_block {W : World} {t : TypeId} {fr : Nat × Nat} (h : W.heap[0]? = some (.cells cellsRR t fr)) : W.var? Ybad.prog nm = some cellsRR := by
  unfold World.var?
  rw [gRR]
  simp only [Option.bind_some, h]

def IsRow (k : IntKind) (w : World) (a : Option Addr) (len cap : Nat) (zs : List Int) : Prop :=
  (a = none ∧ len = 0 ∧ cap = 0 ∧ zs = []) ∨
  ∃ x, a = some x ∧ len ≤ cap ∧ cap ≤ maxLen ∧ zs.length = cap ∧ (∀ i, i < zs.length → w.cell? (x.add i) = some (.int k (zs.getD i 0))) ∧ ∀ n ∈ zs, (Lit.int k n).wf = true

theorem walk (xA : Bool) (a0 : Option Addr) (len0 cap0 : Nat) (z0 : List Int) (w : World) (w0 : IsRow .u8 w a0 len0 cap0 z0) (t : TypeId) (fr : Nat × Nat) (hb : w.heap[0]? = some (.cells cellsRR t fr)) :
    Calls Ybad.prog 3 #[.bool xA, .slice a0 len0 cap0] w fun e w' => e = .returned (.bool true) ∧ Below w.heap.size w w' := by
  rcases w0 with ⟨rfl, rfl, rfl, rfl⟩ | ⟨x, rfl, hl, hm, hz, hc, hwf⟩
  · exact law_zero xA _ _ w
  · by_cases hbig : (1048576 : Int) < (len0 : Int)
    · exact law_big xA _ _ _ w hbig
    · by_cases h0 : len0 = 0
      · subst h0; exact law_zero xA _ _ w
      · obtain ⟨b, off, rfl, hc'⟩ := ints_at hc (by omega)
        have H : Hid (Mem w t fr b off len0 z0) := ⟨hb, fun j hj => hc' j (by omega)⟩
        have rg : ∀ j : Nat, 0 ≤ z0.getD j 0 ∧ z0.getD j 0 ≤ 255 := fun j => by rw [List.getD_eq_getElem?_getD]; exact range_u8 hwf j
        by_cases h1 : len0 = 1
        · exact law_1 xA b off len0 cap0 z0 _ w t fr H h1 (by omega) (by omega) rfl (rg 0)
        · by_cases h2 : len0 = 2
          · exact law_2 xA b off len0 cap0 z0 _ _ w t fr H h2 (by omega) (by omega) rfl rfl (rg 1) (rg 0)
          · exact law_3 xA b off len0 cap0 z0 _ _ _ w t fr H (by omega) (by omega) (by omega) rfl rfl rfl (rg 2) (rg 1) (rg 0)

set_option maxRecDepth 100000 in
theorem lifted (os : Os) (started : os.Started) (H : Type) (enc : TypeId × Value → H) :
    ReturnsInHanded {} Ybad.checked os 3 .any (fun w args => (Rows.lawS5520AWholeSpec.pre enc Ybad.prog Ybad.f3 [] false w args ∧ laidMetH Ybad.prog rrs w) ∧ sizedMet enc Ybad.prog Ybad.f3 (OpenSpec.ofChange Rows.lawS5520AWholeSpec) false w args)
      (Rows.lawS5520AWholeSpec.post enc Ybad.prog Ybad.f3 false true false false) := by
  refine returnsInHanded_of_change_and (C := Ybad.checked) (X := fun w _ => laidMetH Ybad.prog rrs w) (fun _ _ _ hh h => h.of_heap hh) own started (by kernel_rfl) Ybad.func3
    (ChangeSpec.witness_shaped (enc := enc) (C := Ybad.checked) (os := os) (X := fun w _ => laidMetH Ybad.prog rrs w) false (World.doorLaid Ybad.prog 23 os) #[.bool false, .slice none 0 0] 8 rfl (World.shaped_of_RefB (by kernel_rfl) (by kernel_rfl)) (by kernel_rfl) (by kernel_rfl) (by kernel_rfl) (door_met os _)) ?_
  intro W base args ds gs before hval0 hW _ _ hL _
  have hval : ∀ (j : Nat) t v, Ybad.f3.params[j]? = some t → args[j]? = some v → Value.okWide Ybad.prog W .any base t v := hval0
  have hW' := hW
  obtain ⟨p, q, hA0, hV0, rfl, hfz, hnd⟩ := hW
  have hA : DataW.TrodAll enc Ybad.prog W 0 (fun _ => true) true Ybad.f3.params.toList args.toList ds p := hA0
  have hV : DataW.TrodVars enc Ybad.prog W (fun _ => true) [nm] gs q := hV0
  rw [Ybad.params3] at hA hval
  obtain ⟨v0, v1, d0, d1, p0, p1, rfl, rfl, rfl, h0, h1⟩ := trodAll_two hA
  obtain ⟨xA, rfl, rfl, rfl⟩ := open_bool Ybad.underlying4 (hval 0 4 v0 rfl rfl) h0
  obtain ⟨g, t, cs, fuel, d, p', rfl, hg, ht, hvar, hd, rfl⟩ := trodVars_one hV
  obtain rfl := Option.some.inj (gRR.symm.trans hg)
  obtain rfl := Option.some.inj (tRR.symm.trans ht)
  obtain rfl : cs = cellsRR := Option.some.inj (hvar.symm.trans (cells_of_laid hL))
  obtain ⟨rfl, rfl⟩ := DataW.Trod.unique (v := .agg cellsRR) ⟨fuel, hd⟩ ⟨3, reads_tab enc W _⟩
  obtain ⟨tb, fr, hb⟩ := block_of_var hvar
  obtain ⟨a1, len1, cap1, rfl⟩ := okWide_slice Ybad.underlying22 (hval 1 22 v1 rfl rfl)
  have k1 := h1
  have lt1 : ∀ x ∈ p1, x.block < W.heap.size := by obtain ⟨m, hm⟩ := k1; exact DataW.trod_lt m _ _ _ hm
  obtain ⟨z1, w1⟩ : ∃ zs, IsRow .u8 W a1 len1 cap1 zs := by
    obtain ⟨fuel, hf⟩ := h1
    rcases open_ints Ybad.underlying22 Ybad.underlying5 (by kernel_rfl) hf with ⟨hcs, _⟩ | ⟨x, l, c, zs, hcs, _, hl, hm, hz, _, hcell, hwz⟩
    · simp [Value.cells] at hcs
      obtain ⟨rfl, rfl, rfl⟩ := hcs
      exact ⟨[], .inl ⟨rfl, rfl, rfl, rfl⟩⟩
    · simp [Value.cells] at hcs
      obtain ⟨rfl, rfl, rfl⟩ := hcs
      exact ⟨zs, .inr ⟨_, rfl, hl, hm, by simpa using hz, hcell, hwz⟩⟩
  clear hA0 hV0 hval0
  refine (walk xA a1 len1 cap1 z1 W w1 tb fr hb).mono fun e W' ⟨he, bel⟩ => ?_
  subst he
  have hb' : W'.heap[0]? = some (.cells cellsRR tb fr) := (bel.block 0 (lt_of_block hb)).trans hb
  exact ⟨_, rfl, _, _, _, [], _, _, hW', trodAll_mk1 (shut_bool Ybad.underlying4 _), trodAll_mk2 (shut_bool Ybad.underlying4 _) (Below.trod laidOut (by kernel_rfl) (of_decide_eq_true (by kernel_rfl)) k1 bel lt1), trodVars_mk1 gRR tRR (var_of_block hb') (reads_tab enc W' _), bel.frame _, fun h => by cases h⟩

theorem lawS5520AWhole_holds : Rows.LawS5520AWholeSaid :=
  OpenClaim.holds_of_wide 3 Ybad.f3 rfl rfl rfl rfl rfl rfl rfl ⟨rfl, rfl, rfl, rfl, rfl⟩ rfl rfl rfl rfl rfl (by kernel_rfl) Ybad.func3 (by kernel_rfl)
    (of_decide_eq_true (by kernel_rfl)) (by unfold Func.isWrapper; first | (rw [if_pos (by decide +kernel)]; kernel_rfl) | (rw [if_neg (by decide +kernel)]; exact ⟨rfl, rfl⟩))
    (fun os started H enc _ => lifted os started H enc)

/-- THE TIED CARD -/
theorem card_proved : Rows.LawS5520AWholeCardSaid :=
  Claim7.holds_tied_plain_at .later [] [.data] true (true, "c1e098513d00535a3e386acb4206bb8a3a0e5d957ba0669d7ca3b7fb2dca70f1") false
    lawS5520AWhole_holds (fun _ h => by cases h) (by kernel_rfl) (fun _ h => by cases h) lawS5520AWhole_row_tie rfl ⟨rfl, rfl⟩ (by kernel_rfl) rfl
    (fun f fn hf hfn => by
      obtain rfl : f = 3 := Option.some.inj ((show Ybad.prog.funcNamed Rows.lawS5520AWholeRow.func = some 3 by kernel_rfl).symm.trans hf) |>.symm
      obtain rfl : fn = Ybad.f3 := (Option.some.inj (Ybad.func3.symm.trans hfn)).symm
      exact ⟨by kernel_rfl, fun j t ht => by
        rw [Ybad.params3] at ht
        have hm : t ∈ [4, 22] := by simpa using Array.mem_of_getElem? ht
        have hall : ([4, 22].all fun u => !Ybad.prog.wantsStandIn u) = true := by kernel_rfl
        exact (show Ybad.prog.wantsStandIn t = false by simpa using List.all_eq_true.1 hall t hm)⟩)
    (by kernel_rfl)
#print axioms card_proved
end Go.Proofs.YbulkdjhiDoor
