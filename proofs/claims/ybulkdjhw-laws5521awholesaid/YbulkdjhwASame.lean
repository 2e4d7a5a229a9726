import Derived.Test.YbulkdjhwABuild
import Derived.WalkKit
import Derived.WalkSpells
import Derived.BigQuiet
import Derived.Deep.QuietTactic
import Derived.Laws.CopyOwn
import Derived.Laws.ResultCell
import Derived.Maps.OwnSet
namespace Go.Proofs.Ybulkdjhw.A
open Go.RowKit
set_option linter.unusedVariables false
theorem cntT_step_none (t : Tab) (k : Nat) (h : t k = none) : cntT (tk t (k + 1)) = cntT (tk t k) := by rw [tk_none t k h]
theorem cntT_step_some (t : Tab) (k : Nat) (hk : k < 12) (l : List Nat) (h : t k = some l) : cntT (tk t (k + 1)) = cntT (tk t k) + 1 := by
  rw [tk_some t k l h, cntT_set _ k l hk (tk_at t k)]

set_option maxHeartbeats 1000000 in
theorem same_any (t : Tab) (ht : t.ok) (vs vm : Nat → Value) (B b : Nat) (w : World) (hB : B ≤ w.heap.size) (hM : MapIs w B (some b) t vm) (hrows : ∀ i l, t i = some l → IdxRow w w.heap.size (vs i) l) :
    Calls Yba.prog 13 #[.map (some b), .agg (hasA t), .agg (idxA vs), .agg alphaV] w fun e w' => e = .returned (.bool true) ∧ Below w.heap.size w w' := by
  obtain ⟨W, hW⟩ : ∃ W, W = ((w.alloc (Obj.cells (hasA t) 26)).alloc (Obj.cells (idxA vs) 28)).alloc (Obj.cells alphaV 24) := ⟨_, rfl⟩
  have hWs : W.heap.size = w.heap.size + 1 + 1 + 1 := by rw [hW]; simp
  have hWB : Below w.heap.size w W := by rw [hW]; exact (((Below.refl _ _).alloc (Nat.le_refl _) _).alloc (by simp) _).alloc (by simp; omega) _
  obtain ⟨b1, b2, b3⟩ := three_blocks w (Obj.cells (hasA t) 26) (Obj.cells (idxA vs) 28) (Obj.cells alphaV 24)
  rw [← hW] at b1 b2 b3
  have HcH : Hid (∀ i, i < 12 → W.cell? ⟨w.heap.size, i, none⟩ = some (.bool (t i).isSome)) := fun i hi => cell_at b1 (hasA_at t i hi)
  have HcI : Hid (∀ i, i < 12 → W.cell? ⟨w.heap.size + 1, i, none⟩ = some (vs i)) := fun i hi => cell_at b2 (idxA_at vs i hi)
  have HcA : Hid (∀ i, i < 12 → W.cell? ⟨w.heap.size + 1 + 1, i, none⟩ = some (.int .i32 (al i))) := fun i hi => cell_at b3 (alphaV_at i hi)
  have HR : Hid (∀ i l, t i = some l → IdxRow w w.heap.size (vs i) l) := hrows
  have HW : Hid (W = ((w.alloc (Obj.cells (hasA t) 26)).alloc (Obj.cells (idxA vs) 28)).alloc (Obj.cells alphaV 24)) := hW
  have HM : Hid (MapIs W B (some b) t vm) := hM.below (hWB.mono hB)
  clear hW hrows b1 b2 b3 hM
  go_enter Yba.func13, Yba.ntmps13
  go_wp2
  go_loopw [9, 10] (fun c i wr => ∃ k : Nat, k ≤ 12 ∧ i = .int .i64 k ∧ c = .int .i64 (cntT (tk t k)) ∧ Hid (∃ n, wr = W.drewN n)) (fun _ i _ => 12 - (intOf i).toNat)
  case atStart => exact ⟨0, by omega, rfl, by rw [tk_zero]; rfl, 0, by rw [HW.out]; rfl⟩
  case round =>
    obtain ⟨k, hk, rfl, rfl, hn⟩ := hrel
    have hcw : Hid (∀ p, wr.cell? p = W.cell? p) := by obtain ⟨n, rfl⟩ := hn; intro p; rfl
    have HMr : Hid (MapIs wr B (some b) t vm) := by obtain ⟨n, rfl⟩ := hn; exact HM.out.below ⟨rfl, rfl, rfl, Nat.le_refl _, fun _ _ => rfl⟩
    have hcl := cntT_le (tk t k)
    obtain ⟨wo, rfl⟩ : ∃ wo, wo = wr := ⟨_, rfl⟩
    by_cases hlt : k < 12
    · have h1 := (hcw.out _).trans (HcH.out k hlt)
      have h2 := (hcw.out _).trans (HcI.out k hlt)
      have h3 := (hcw.out _).trans (HcA.out k hlt)
      have hbd := al_bd k hlt
      cases htk : t k with
      | none =>
        rw [htk] at h1
        go_wp2
        go_roundw
        case rel => exact ⟨k + 1, by omega, by go_num, by rw [tk_none t k htk], hn⟩
        case measure => simp [intOf]; omega
      | some l =>
        rw [htk] at h1
        obtain ⟨g, cap, hv, hg, hcg⟩ := HR.out k l htk
        rw [hv] at h2
        obtain ⟨g', cap', hv', hg', hcg'⟩ := HMr.out.rows k l htk
        have hlk := HMr.out.look hlt
        unfold valAt at hlk
        rw [htk] at hlk
        simp only [Option.isSome_some, if_true] at hlk
        rw [hv'] at hlk
        have hl4 := (ht k l htk).2.1
        have HCN := (show Hid _ from cntT_step_some t k hlt l htk)
        have HG : Hid (∀ j, j < l.length → w.cell? ⟨g, j, none⟩ = some (.int .i64 ((l.getD j 0 : Nat) : Int))) := hcg
        have HG' : Hid (∀ j, j < l.length → wo.cell? ⟨g', j, none⟩ = some (.int .i32 (al (l.getD j 0)))) := hcg'
        have HXI : Hid (∀ x ∈ l, x < 12) := fun x hx => by have := (ht k l htk).2.2 x hx; omega
        have HTK := (show Hid _ from htk)
        clear hcg hcg' hv hv' htk
        go_wp2
        go_loopw [48] (fun q wr => ∃ j : Nat, j ≤ l.length ∧ q = .int .i64 j ∧ Hid (∃ n, wr = wo.drewN n)) (fun q _ => l.length - (intOf q).toNat)
        case atStart => exact ⟨0, Nat.zero_le _, rfl, 0, rfl⟩
        case round =>
          obtain ⟨j, hj, rfl, hm⟩ := hrel
          have hcx : Hid (∀ p, wr.cell? p = wo.cell? p) := by obtain ⟨n, rfl⟩ := hm; intro p; rfl
          clear h1 h2 h3 hlk
          by_cases hjl : j < l.length
          · obtain ⟨y, hy⟩ : ∃ y, y = l.getD j 0 := ⟨_, rfl⟩
            have hyl : y ∈ l := by rw [hy, List.getD_eq_getElem?_getD, List.getElem?_eq_getElem hjl]; exact List.getElem_mem hjl
            have hy12 := HXI.out y hyl
            have g1 : wr.cell? ⟨g, j, none⟩ = some (.int .i64 (y : Int)) := by rw [hy]; exact (hcx.out _).trans ((hcw.out _).trans ((hWB.cell (p := ⟨g, j, none⟩) hg).trans (HG.out j hjl)))
            have g2 : wr.cell? ⟨w.heap.size + 1 + 1, y, none⟩ = some (.int .i32 (al y)) := (hcx.out _).trans ((hcw.out _).trans (HcA.out y hy12))
            have g3 : wr.cell? ⟨g', j, none⟩ = some (.int .i32 (al y)) := by rw [hy]; exact (hcx.out _).trans (HG'.out j hjl)
            clear hy
            go_wp2
            go_quiet (fail)
            go_wp2
            go_roundw
            case rel =>
              refine ⟨j + 1, by omega, by go_num, ?_⟩
              obtain ⟨n, rfl⟩ := hm
              exact ⟨_, by simp only [World.drewN_drewN]; rfl⟩
            case measure => simp [intOf]; omega
          · go_wp2
            go_roundw
            case rel =>
              refine ⟨k + 1, by omega, by go_num, by rw [HCN.out]; go_num, ?_⟩
              obtain ⟨n, rfl⟩ := hn
              obtain ⟨n', rfl⟩ := hm
              exact ⟨_, by simp only [World.drewN_drewN]; rfl⟩
            case measure => simp [intOf]; omega
    · obtain rfl : k = 12 := by omega
      obtain ⟨_, n, D, _, hown, hsz, _⟩ := HMr.out.atMap b rfl
      have hlen := fun ty => hown.len Yba.underlying37 ty
      have hsz' : Maps.size D = cntT (tk t 12) := by rw [tk_all ht]; exact hsz
      rw [hsz'] at hlen
      clear hown hsz hsz'
      go_wp2
      go_ret
      refine ⟨rfl, ?_⟩
      obtain ⟨n, rfl⟩ := hn
      exact hWB.trans ⟨rfl, rfl, rfl, Nat.le_refl _, fun _ _ => rfl⟩
end Go.Proofs.Ybulkdjhw.A
