import Derived.Test.YbulkdjhwADec
import Derived.WalkKit
import Derived.WalkSpells
import Derived.BigQuiet
import Derived.Deep.QuietTactic
import Derived.Laws.CopyOwn
import Derived.Laws.ResultCell
import Derived.Maps.OwnSet
namespace Go.Proofs.Ybulkdjhw.A
open Go.RowKit
set_option linter.unusedVariables false
open Go.Maps (Keyed IsMap Tidy)

def hasA (t : Tab) : Array Value := ((List.range 12).map fun i => Value.bool (t i).isSome).toArray
def idxA (vs : Nat → Value) : Array Value := ((List.range 12).map vs).toArray
theorem hasA_at (t : Tab) (i : Nat) (hi : i < 12) : (hasA t)[i]? = some (.bool (t i).isSome) := by simp [hasA, hi]
theorem idxA_at (vs : Nat → Value) (i : Nat) (hi : i < 12) : (idxA vs)[i]? = some (vs i) := by simp [idxA, hi]
theorem alphaV_at (i : Nat) (hi : i < 12) : alphaV[i]? = some (.int .i32 (al i)) := by
  simp only [alphaV, List.getElem?_toArray, List.getElem?_map, al, List.getD_eq_getElem?_getD]
  rw [List.getElem?_eq_getElem (show i < alphaL.length from hi)]; rfl


theorem count_set (p : Nat → Bool) (k : Nat) : ∀ l : List Nat, l.Nodup → k ∈ l → p k = false → (l.filter (fun i => if i = k then true else p i)).length = (l.filter p).length + 1
  | [], _, h, _ => by cases h
  | a :: l, hn, h, hp => by
    obtain ⟨hna, hnl⟩ := List.nodup_cons.1 hn
    by_cases e : a = k
    · subst e
      have hc : l.filter (fun i => if i = a then true else p i) = l.filter p := by
        refine List.filter_congr fun i hi => ?_
        rw [if_neg]; rintro rfl; exact hna hi
      rw [List.filter_cons_of_pos (by simp), List.filter_cons_of_neg (by simp [hp]), hc]; rfl
    · have hk : k ∈ l := by
        rcases List.mem_cons.1 h with h | h
        · exact absurd h.symm e
        · exact h
      have ih := count_set p k l hnl hk hp
      cases hpa : p a with
      | true => rw [List.filter_cons_of_pos (by simp [e, hpa]), List.filter_cons_of_pos hpa, List.length_cons, List.length_cons, ih]
      | false => rw [List.filter_cons_of_neg (by simp [e, hpa]), List.filter_cons_of_neg (by simp [hpa]), ih]
def cntT (t : Tab) : Nat := ((List.range 12).filter fun i => (t i).isSome).length
theorem cntT_set (t : Tab) (k : Nat) (l : List Nat) (hk : k < 12) (h : t k = none) : cntT (t.set k l) = cntT t + 1 := by
  unfold cntT
  rw [← count_set (fun i => (t i).isSome) k (List.range 12) List.nodup_range (by simpa using hk) (by rw [h]; rfl)]
  congr 1
  refine List.filter_congr fun i _ => ?_
  unfold Tab.set; split <;> simp
theorem cntT_le (t : Tab) : cntT t ≤ 12 := by
  unfold cntT
  exact Nat.le_trans (List.length_filter_le _ _) (by simp)

theorem MapIs.mono {w : World} {B B' : Nat} {m : Option Nat} {t : Tab} {vs : Nat → Value} (h : MapIs w B m t vs) (hB : B ≤ B') : MapIs w B' m t vs where
  atNil := h.atNil
  atMap := fun b hm => by
    obtain ⟨hlt, q⟩ := h.atMap b hm
    exact ⟨Nat.lt_of_lt_of_le hlt hB, q⟩
  rows := fun i l hl => by
    obtain ⟨g, cap, hv, hg, hc⟩ := h.rows i l hl
    exact ⟨g, cap, hv, Nat.lt_of_lt_of_le hg hB, hc⟩
theorem MapIs.congr {w : World} {B : Nat} {m : Option Nat} {t t' : Tab} {vs : Nat → Value} (h : MapIs w B m t vs) (e : t' = t) : MapIs w B m t' vs := by subst e; exact h

theorem mapIs_made (w : World) (vs : Nat → Value) : MapIs (w.alloc (.map #[] 0)) (w.heap.size + 1) (some w.heap.size) tab0 vs where
  atNil := fun h => by cases h
  atMap := fun b hb => by
    cases hb
    refine ⟨Nat.lt_succ_self _, 0, .map [], by decide, World.ownsMap_made w _ _ _, rfl, fun i hi => ⟨rfl, fun h => by cases h⟩, fun r hr => rfl⟩
  rows := fun i l h => by cases h

def updV (vs : Nat → Value) (k : Nat) (v : Value) : Nat → Value := fun i => if i = k then v else vs i

/-- 'm[alpha[k]] = d' at a place that is not there yet. -/
theorem MapIs.store {w : World} {B b : Nat} {t : Tab} {vs : Nat → Value} (h : MapIs w B (some b) t vs) {k : Nat} (hk : k < 12) (hn : t k = none) {v : Value} {l : List Nat} (hv : Targets w B v l) :
    ∃ w', (Instr.mapUpdate 37 (.map (some b)) (.int .i32 (al k)) v).run Yba.prog w = .ok () w' ∧ MapIs w' B (some b) (t.set k l) (updV vs k v) ∧ w.grownBy w' (some b) := by
  obtain ⟨hlt, n, D, hnm, hown, hsz, hat, hmiss⟩ := h.atMap b rfl
  have hbd := al_bd k hk
  have hkey := keyI (al k) (by omega) (by omega)
  have hown' : w.ownsMap Yba.prog 21 heldR b (Maps.size D) D := by
    obtain ⟨es, clock, h1, h2, _, h4⟩ := hown
    refine ⟨es, clock, h1, h2, ?_, h4⟩
    rw [h4]; simp [Maps.size, length_sorted]
  have hs12 : Maps.size D ≤ 12 := by rw [hsz]; exact cntT_le t
  obtain ⟨w', hrun, hown2, hturn⟩ := hown'.store lawK Yba.underlying37 (by unfold maxLen; omega) hkey (show heldR v = some (.held v, []) from rfl)
  have hgr := hturn.grown
  have hKL : WideAt.IsKeyLit (kI (al k)) := trivial
  have ne : ∀ i, i < 12 → i ≠ k → kI (al i) ≠ kI (al k) := fun i hi hik e => by
    injection e with _ e'; exact hik (al_inj i k hi hk e')
  obtain ⟨es, clock, hbk, _⟩ := hown'
  have keptT : ∀ {u : Value} {q : List Nat}, Targets w B u q → Targets w' B u q := by
    rintro u q ⟨g, cap, hu, hg, hc⟩
    refine ⟨g, cap, hu, hg, fun j hj => hgr.cell (hc j hj) ?_⟩
    intro e
    have e' : g = b := Option.some.inj e
    have := hc j hj
    rw [e'] at this
    simp [World.cell?, hbk] at this
  refine ⟨w', hrun, ⟨(fun h => by cases h), fun b' hb' => ?_, fun i l' hl' => ?_⟩, hgr⟩
  · cases hb'
    refine ⟨hlt, Maps.size D + 1, _, by unfold maxLen; omega, hown2, ?_, fun i hi => ?_, fun r hr => ?_⟩
    · rw [Maps.size_put (hown.tidy lawK), (hat k hk).1, hn]
      show Maps.size D + 1 = cntT (t.set k l)
      rw [cntT_set t k l hk hn, hsz]; rfl
    · by_cases e : i = k
      · subst e
        refine ⟨?_, fun _ => ?_⟩
        · rw [Maps.has_put_same hown.isMap hKL]; simp [Tab.set]
        · rw [Maps.atKey_put_same hown.isMap hKL]; simp [updV]
      · refine ⟨?_, fun hs => ?_⟩
        · rw [Maps.has_put_other (ne i hi e), (hat i hi).1]; simp [Tab.set, e]
        · rw [Maps.atKey_put_other (ne i hi e)]
          have hs' : (t i).isSome = true := by simpa [Tab.set, e] using hs
          rw [(hat i hi).2 hs']; simp [updV, e]
    · have hne : kI r ≠ kI (al k) := fun e => by injection e with _ e'; exact hr k hk e'.symm
      rw [Maps.has_put_other hne]; exact hmiss r hr
  · unfold Tab.set at hl'
    by_cases e : i = k
    · subst e
      rw [if_pos rfl] at hl'; cases hl'
      simp only [updV, if_true]
      exact keptT hv
    · rw [if_neg e] at hl'
      simp only [updV, if_neg e]
      exact keptT (h.rows i l' hl')

/-- The table up to place k. -/
def tk (t : Tab) (k : Nat) : Tab := fun i => if i < k then t i else none
theorem tk_zero (t : Tab) : tk t 0 = tab0 := by funext i; simp [tk, tab0]
theorem tk_none (t : Tab) (k : Nat) (h : t k = none) : tk t (k + 1) = tk t k := by
  funext i
  unfold tk
  by_cases e : i = k
  · subst e; rw [if_pos (by omega), if_neg (by omega), h]
  · by_cases h' : i < k
    · rw [if_pos (by omega), if_pos h']
    · rw [if_neg (by omega), if_neg h']
theorem tk_some (t : Tab) (k : Nat) (l : List Nat) (h : t k = some l) : tk t (k + 1) = (tk t k).set k l := by
  funext i
  unfold tk Tab.set
  by_cases e : i = k
  · subst e; rw [if_pos (by omega), if_pos rfl, h]
  · rw [if_neg e]
    by_cases h' : i < k
    · rw [if_pos (by omega)]; exact (if_pos h').symm
    · rw [if_neg (by omega)]; exact (if_neg h').symm
theorem tk_at (t : Tab) (k : Nat) : tk t k k = none := by simp [tk]
theorem tk_all {t : Tab} (h : t.ok) : tk t 12 = t := by
  funext i
  unfold tk
  by_cases h' : i < 12
  · rw [if_pos h']
  · rw [if_neg h']
    cases e : t i with
    | none => rfl
    | some l => have := (h i l e).1; omega

/-- The slice of targets, as numbers. -/
def IdxRow (w : World) (B : Nat) (v : Value) (l : List Nat) : Prop :=
  ∃ g cap, v = .slice (some ⟨g, 0, none⟩) l.length cap ∧ g < B ∧ ∀ j, j < l.length → w.cell? ⟨g, j, none⟩ = some (.int .i64 ((l.getD j 0 : Nat) : Int))
theorem IdxRow.below {w w' : World} {B : Nat} {v : Value} {l : List Nat} (h : IdxRow w B v l) (hb : Below B w w') : IdxRow w' B v l := by
  obtain ⟨g, cap, hv, hg, hc⟩ := h
  exact ⟨g, cap, hv, hg, fun j hj => (hb.cell (p := ⟨g, j, none⟩) hg).trans (hc j hj)⟩

def dcells (l : List Nat) (q : Nat) : List Value := (l.take q).map (fun y => Value.int .i32 (al y)) ++ List.replicate (l.length - q) (.int .i32 0)
theorem dcells_zero (l : List Nat) : dcells l 0 = List.replicate l.length (.int .i32 0) := by simp [dcells]
theorem dcells_at (l : List Nat) (q : Nat) (hq : q < l.length) : (dcells l q)[q]? = some (.int .i32 0) := by
  unfold dcells
  have h1 : ((l.take q).map (fun y => Value.int .i32 (al y))).length = q := by simp; omega
  rw [List.getElem?_append_right (by omega), h1, Nat.sub_self, List.getElem?_replicate, if_pos (by omega)]
theorem dcells_succ (l : List Nat) (q : Nat) (hq : q < l.length) : (dcells l q).set q (.int .i32 (al (l.getD q 0))) = dcells l (q + 1) := by
  unfold dcells
  have h1 : ((l.take q).map (fun y => Value.int .i32 (al y))).length = q := by simp; omega
  rw [List.set_append_right _ _ (by omega), h1]
  have h2 : l.length - q = (l.length - (q + 1)) + 1 := by omega
  have h3 : l.take (q + 1) = l.take q ++ [l.getD q 0] := by
    rw [List.take_succ_eq_append_getElem hq, List.getD_eq_getElem?_getD, List.getElem?_eq_getElem hq]; rfl
  rw [h2, List.replicate_succ, Nat.sub_self, List.set_cons_zero, h3, List.map_append, List.append_assoc]
  rfl
theorem dcells_all (l : List Nat) (j : Nat) (hj : j < l.length) : (dcells l l.length)[j]? = some (.int .i32 (al (l.getD j 0))) := by
  simp [dcells, hj]

theorem three_blocks (w : World) (o1 o2 o3 : Obj) : (((w.alloc o1).alloc o2).alloc o3).heap[w.heap.size]? = some o1 ∧ (((w.alloc o1).alloc o2).alloc o3).heap[w.heap.size + 1]? = some o2 ∧ (((w.alloc o1).alloc o2).alloc o3).heap[w.heap.size + 1 + 1]? = some o3 := by
  have s1 : (w.alloc o1).heap.size = w.heap.size + 1 := World.size_alloc _ _
  have s2 : ((w.alloc o1).alloc o2).heap.size = w.heap.size + 1 + 1 := by rw [World.size_alloc, s1]
  refine ⟨?_, ?_, ?_⟩
  · rw [Below.heap_alloc _ _ _ (by omega), Below.heap_alloc _ _ _ (by omega)]; exact heap_alloc_new w o1
  · rw [Below.heap_alloc _ _ _ (by omega), ← s1]; exact heap_alloc_new _ o2
  · rw [← s2]; exact heap_alloc_new _ o3
theorem cell_at {w : World} {g j : Nat} {C : Array Value} {t : TypeId} {fr : Nat × Nat} {v : Value} (h : w.heap[g]? = some (.cells C t fr)) (hj : C[j]? = some v) : w.cell? ⟨g, j, none⟩ = some v := by
  rw [cell_of_row w g j C t fr h, hj]

set_option maxHeartbeats 1000000 in
theorem build_any (t : Tab) (ht : t.ok) (vs : Nat → Value) (w : World) (hrows : ∀ i l, t i = some l → IdxRow w w.heap.size (vs i) l) :
    Calls Yba.prog 9 #[.agg (hasA t), .agg (idxA vs), .agg alphaV] w fun e w' => ∃ b vs', e = .returned (.map (some b)) ∧ MapIs w' w'.heap.size (some b) t vs' ∧ Below w.heap.size w w' := by
  have hmm := @run_makeMap Yba.prog
  obtain ⟨i0, hi, hz0, hz1, hz2⟩ := info_parts info21
  obtain ⟨W, hW⟩ : ∃ W, W = ((w.alloc (Obj.cells (hasA t) 26)).alloc (Obj.cells (idxA vs) 28)).alloc (Obj.cells alphaV 24) := ⟨_, rfl⟩
  have hWs : W.heap.size = w.heap.size + 1 + 1 + 1 := by rw [hW]; simp
  have hWB : Below w.heap.size w W := by rw [hW]; exact (((Below.refl _ _).alloc (Nat.le_refl _) _).alloc (by simp) _).alloc (by simp; omega) _
  obtain ⟨b1, b2, b3⟩ := three_blocks w (Obj.cells (hasA t) 26) (Obj.cells (idxA vs) 28) (Obj.cells alphaV 24)
  rw [← hW] at b1 b2 b3
  have HcH : Hid (∀ i, i < 12 → W.cell? ⟨w.heap.size, i, none⟩ = some (.bool (t i).isSome)) := fun i hi => cell_at b1 (hasA_at t i hi)
  have HcI : Hid (∀ i, i < 12 → W.cell? ⟨w.heap.size + 1, i, none⟩ = some (vs i)) := fun i hi => cell_at b2 (idxA_at vs i hi)
  have HcA : Hid (∀ i, i < 12 → W.cell? ⟨w.heap.size + 1 + 1, i, none⟩ = some (.int .i32 (al i))) := fun i hi => cell_at b3 (alphaV_at i hi)
  have HR : Hid (∀ i l, t i = some l → IdxRow w w.heap.size (vs i) l) := hrows
  have HW : Hid (W = ((w.alloc (Obj.cells (hasA t) 26)).alloc (Obj.cells (idxA vs) 28)).alloc (Obj.cells alphaV 24)) := hW
  have hM0 := mapIs_made W vs
  rw [hWs, hW] at hM0
  clear hW hrows b1 b2 b3
  go_enter Yba.func9, Yba.ntmps9
  go_wp2
  go_loopw [8] (fun i wr => ∃ k : Nat, k ≤ 12 ∧ i = .int .i64 k ∧ (∃ vs', Hid (MapIs wr wr.heap.size (some (w.heap.size + 1 + 1 + 1)) (tk t k) vs')) ∧ Below (w.heap.size + 1 + 1 + 1) W wr) (fun i _ => 12 - (intOf i).toNat)
  case atStart =>
    refine ⟨0, by omega, rfl, ⟨vs, ?_⟩, ?_⟩
    · rw [tk_zero]
      show MapIs _ _ _ _ _
      exact hM0.mono (by simp)
    · rw [HW.out]; exact (Below.refl _ _).alloc (by simp) _
  case round =>
    obtain ⟨k, hk, rfl, ⟨vs', hM⟩, hBk⟩ := hrel
    clear hM0
    obtain ⟨wo, rfl⟩ : ∃ wo, wo = wr := ⟨_, rfl⟩
    by_cases hlt : k < 12
    · have h1 := (hBk.cell (p := ⟨w.heap.size, k, none⟩) (show w.heap.size < _ by omega)).trans (HcH.out k hlt)
      have h2 := (hBk.cell (p := ⟨w.heap.size + 1, k, none⟩) (show w.heap.size + 1 < _ by omega)).trans (HcI.out k hlt)
      have h3 := (hBk.cell (p := ⟨w.heap.size + 1 + 1, k, none⟩) (show w.heap.size + 1 + 1 < _ by omega)).trans (HcA.out k hlt)
      cases htk : t k with
      | none =>
        rw [htk] at h1
        go_wp2
        go_roundw
        case rel => exact ⟨k + 1, by omega, by go_num, ⟨vs', by rw [tk_none t k htk]; exact hM⟩, hBk⟩
        case measure => simp [intOf]; omega
      | some l =>
        rw [htk] at h1
        obtain ⟨g, cap, hv, hg, hcg⟩ := HR.out k l htk
        rw [hv] at h2
        have hl4 := (ht k l htk).2.1
        have hsz : w.heap.size + 1 + 1 + 1 ≤ wo.heap.size := by have := hBk.size; omega
        go_wp2_with (at_make; refine wpList_make_full _ rfl _ _ 22 rfl wo.heap.size 21 i0 _ 1 Yba.underlying22 hi hz0 hz1 _ _ _ _ l.length rfl rfl rfl rfl (by rw [hz2]; omega) (by unfold maxLen; omega) (Nat.le_refl _) ?_; intro w1 hown hgrow; have hB1 : Below wo.heap.size wo w1 := (Below.refl _ _).grown hgrow (Nat.le_refl _) (by simp); have hx1 := (hB1.cell (p := ⟨w.heap.size + 1, k, none⟩) (show w.heap.size + 1 < _ by omega)).trans h2)
        have e0 : (madeCells (Value.cells (.int .i32 0)) (l.length * 1)).toList = dcells l 0 := by
          rw [dcells_zero]; simpa [Value.cells] using toList_madeCells_one (.int .i32 0) l.length
        rw [e0] at hown
        have HXI : Hid (∀ x ∈ l, x < 12) := fun x hx => by have := (ht k l htk).2.2 x hx; omega
        clear e0 hgrow h1 h2 hx1
        go_loopw [30] (fun q wr => ∃ j : Nat, j ≤ l.length ∧ q = .int .i64 j ∧ Hid (wr.ownsRow wo.heap.size 21 1 (.slice (some ⟨wo.heap.size, 0, none⟩) l.length l.length) l.length (dcells l j)) ∧ Below wo.heap.size wo wr) (fun q _ => l.length - (intOf q).toNat)
        case atStart => exact ⟨0, Nat.zero_le _, rfl, hown, hB1⟩
        case round =>
          obtain ⟨j, hj, rfl, hoj, hBj⟩ := hrel
          clear hown hB1
          by_cases hjl : j < l.length
          · obtain ⟨y, hy⟩ : ∃ y, y = l.getD j 0 := ⟨_, rfl⟩
            have hyl : y ∈ l := by rw [hy, List.getD_eq_getElem?_getD, List.getElem?_eq_getElem hjl]; exact List.getElem_mem hjl
            have hy12 := HXI.out y hyl
            have HBw : Hid (Below w.heap.size w wr) := hWB.trans ((hBk.mono (by omega)).trans (hBj.mono (by omega)))
            have g1 : wr.cell? ⟨g, j, none⟩ = some (.int .i64 (y : Int)) := by rw [hy]; exact (HBw.out.cell (p := ⟨g, j, none⟩) hg).trans (hcg j hjl)
            have g2 : wr.cell? ⟨w.heap.size + 1 + 1, y, none⟩ = some (.int .i32 (al y)) := (hBj.cell (p := ⟨w.heap.size + 1 + 1, y, none⟩) (show w.heap.size + 1 + 1 < _ by omega)).trans ((hBk.cell (p := ⟨w.heap.size + 1 + 1, y, none⟩) (show w.heap.size + 1 + 1 < _ by omega)).trans (HcA.out y hy12))
            have g3 : wr.cell? ⟨wo.heap.size, j, none⟩ = some (.int .i32 0) := (hoj.out.cellAt j (by omega)).trans (dcells_at l j hjl)
            have g4 : wr.frozen? ⟨wo.heap.size, j, none⟩ = false := hoj.out.frozenAt j
            have hst := (hoj.out.stored j (.int .i32 (al y))).1
            rw [hy, dcells_succ l j hjl, ← hy] at hst
            have HST := (show Hid _ from hst)
            clear hst hy hcg
            go_wp2
            go_roundw
            case rel => exact ⟨j + 1, by omega, by go_num, HST.out, hBj.setCell (Nat.le_refl _) _⟩
            case measure => simp [intOf]; omega
          · obtain rfl : j = l.length := by omega
            have hz1' := hBj.size
            have hT : Targets wr wr.heap.size (.slice (some ⟨wo.heap.size, 0, none⟩) l.length l.length) l := by
              refine ⟨wo.heap.size, l.length, rfl, ?_, fun j hj => ?_⟩
              · rcases hoj.out.2 with ⟨h', _⟩ | ⟨g', cap', cur, h', _, hg', _⟩
                · cases h'
                · simp only [Value.slice.injEq, Option.some.injEq, Addr.mk.injEq] at h'
                  have := lt_of_block hg'
                  rw [← h'.1.1] at this; exact this
              · exact (hoj.out.cellAt j (by omega)).trans (dcells_all l j hj)
            have hM2 := (hM.out.below hBj).mono hz1'
            obtain ⟨w3, hrun, hM3, hg3⟩ := hM2.store hlt (tk_at t k) hT
            have h3' := (hBj.cell (p := ⟨w.heap.size + 1 + 1, k, none⟩) (show w.heap.size + 1 + 1 < _ by omega)).trans h3
            have HM3 : Hid (MapIs w3 w3.heap.size (some (w.heap.size + 1 + 1 + 1)) (tk t (k + 1)) (updV vs' k (.slice (some ⟨wo.heap.size, 0, none⟩) l.length l.length))) := by
              show MapIs _ _ _ _ _
              rw [tk_some t k l htk]; exact hM3.mono hg3.size
            have HB3 : Hid (Below (w.heap.size + 1 + 1 + 1) W w3) := (hBk.trans (hBj.mono hsz)).grown hg3 (by omega) (fun q hq => Nat.le_of_eq (Option.some.inj hq))
            clear hM3 hM2 hg3 hT hM hcg
            go_wp2
            go_roundw
            case rel => exact ⟨k + 1, by omega, by go_num, ⟨_, HM3⟩, HB3.out⟩
            case measure => simp [intOf]; omega
    · obtain rfl : k = 12 := by omega
      go_wp2
      go_ret
      refine ⟨_, vs', rfl, ?_, hWB.trans (hBk.mono (by omega))⟩
      have := hM.out
      rwa [tk_all ht] at this
end Go.Proofs.Ybulkdjhw.A
