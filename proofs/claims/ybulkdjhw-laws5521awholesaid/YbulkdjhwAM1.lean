import Derived.Test.YbulkdjhwARegion
import Derived.WalkKit
import Derived.WalkSpells
import Derived.BigQuiet
import Derived.Deep.QuietTactic
import Derived.Laws.CopyOwn
import Derived.Laws.ResultCell
import Derived.Deep.DeepCutAuto
import Derived.Maps.OwnSet
import Derived.Test.YbulkdjhwAM2
import Derived.Deep.CutBlock
namespace Go.Proofs.Ybulkdjhw.A
open Go.RowKit
set_option linter.unusedVariables false
set_option maxRecDepth 100000 in
set_option maxHeartbeats 4000000 in
theorem m1 (ao : Option Addr) (lo co : Nat) (raw : Int) (useRaw : Bool) (pick : Nat) (ac ax : Option Addr) (lc cc lx cx : Nat) (nl : Bool) (A : Nat) (c x : Tab) (vc vx : Nat → Value) (LO : List Int) (w : World) (w3 : World) (hcok : c.ok) (hxok : x.ok) (hraw0 : -2147483648 ≤ raw) (hraw1 : raw ≤ 2147483647) (hpick : pick < 256)
    (hlo : lo ≤ 1048576) (hOut : OutRow w w.heap.size ao lo LO) (hco : ao = none → co = 0) (hend : nl = false ∨ nl = true ∧ x = tab0)
    (hBs : Base w3 A w3.heap.size c x vc vx) (hbe : Below w.heap.size w w3)
    (c7 c8 c9 c10 c11 c12 c13 c14 c20 c21 c22 c23 c24 c25 c26 c27 c28 c29 c30 c31 c32 c33 c34 c35 c36 c37 c38 c39 c40 c41 c42 c43 c44 c45 c46 c47 c48 c49 c50 c51 c52 c53 c54 c55 c56 c57 c58 c59 c60 c61 c62 c63 c64 c65 c66 c67 c68 c69 c70 c71 c72 c73 c74 c75 c76 c77 c78 c79 c80 c81 c82 c83 c84 c85 c86 c87 c88 c89 c90 c91 c92 c93 c94 c95 c96 c97 c98 c99 c100 c101 c102 c103 c104 c105 c106 c107 c108 c109 c110 c111 c112 c113 c114 c115 c116 c117 c118 c119 c120 c121 c122 c123 c124 c125 c126 c127 c128 c129 c130 c131 c132 c133 c134 c135 c136 c137 c138 c139 c140 c141 c142 c143 c144 c145 c146 c147 c148 c149 c150 c151 c152 c153 c154 c155 c156 c157 c158 c159 c160 c161 c162 c163 c164 c165 c166 c167 c168 c169 c170 c171 c172 c173 c174 c175 c176 c177 c178 c179 c180 c181 c182 c183 c184 c185 c186 c187 c188 c189 c190 c191 c192 c193 c194 c195 c196 c197 c198 c199 c200 c201 c202 c203 c204 c205 c206 c207 c208 c209 c210 c211 c212 c213 c214 c215 c216 c217 c218 c219 c220 c221 c222 c223 c224 c225 c226 c227 c228 c229 c230 c231 c232 c233 c234 c235 c236 c237 c238 c239 c240 c241 c242 c243 c244 : Value) :
    Code.wp Yba.prog (fromReg 9 (Yba.f3.body.getD .skip)) (bodyPost Yba.prog Yba.f3 fun e w' => e = .returned (.bool true) ∧ Below w.heap.size w w') ⟨#[.slice ao lo co, .int .i32 raw, .bool useRaw, .int .u8 (pick : Int), .slice ac lc cc, .slice ax lx cx, .bool nl, c7, c8, c9, c10, c11, c12, c13, c14, .pointer (some ⟨A, 0, none⟩), .pointer (some ⟨A + 1, 0, none⟩), .pointer (some ⟨A + 1 + 1, 0, none⟩), .pointer (some ⟨A + 1 + 1 + 1, 0, none⟩), .pointer (some ⟨A + 1 + 1 + 1 + 1, 0, none⟩), c20, c21, c22, c23, c24, c25, c26, c27, c28, c29, c30, c31, c32, c33, c34, c35, c36, c37, c38, c39, c40, c41, c42, c43, c44, c45, c46, c47, c48, c49, c50, c51, c52, c53, c54, c55, c56, c57, c58, c59, c60, c61, c62, c63, c64, c65, c66, c67, c68, c69, c70, c71, c72, c73, c74, c75, c76, c77, c78, c79, c80, c81, c82, c83, c84, c85, c86, c87, c88, c89, c90, c91, c92, c93, c94, c95, c96, c97, c98, c99, c100, c101, c102, c103, c104, c105, c106, c107, c108, c109, c110, c111, c112, c113, c114, c115, c116, c117, c118, c119, c120, c121, c122, c123, c124, c125, c126, c127, c128, c129, c130, c131, c132, c133, c134, c135, c136, c137, c138, c139, c140, c141, c142, c143, c144, c145, c146, c147, c148, c149, c150, c151, c152, c153, c154, c155, c156, c157, c158, c159, c160, c161, c162, c163, c164, c165, c166, c167, c168, c169, c170, c171, c172, c173, c174, c175, c176, c177, c178, c179, c180, c181, c182, c183, c184, c185, c186, c187, c188, c189, c190, c191, c192, c193, c194, c195, c196, c197, c198, c199, c200, c201, c202, c203, c204, c205, c206, c207, c208, c209, c210, c211, c212, c213, c214, c215, c216, c217, c218, c219, c220, c221, c222, c223, c224, c225, c226, c227, c228, c229, c230, c231, c232, c233, c234, c235, c236, c237, c238, c239, c240, c241, c242, c243, c244], []⟩ w3 := by
  have HOut := hide2 hOut
  have HCo := hide2 hco
  have HEnd := hide2 hend
  have HBS := hide2 hBs
  have hB3 := hbe
  have hA3 := hBs.lt
  obtain ⟨i0, hi, hz0, hz1, hz2⟩ := info_parts info21
  clear hOut hco hend hBs hbe
  conv => arg 2; whnf
  go_upto_block 0 with fail
  go_cut [] from 42 (fun wx => Hid (UseSt w3 wx w3.heap.size c x vc vx 12))
  case first =>
    go_wp2_with fail
    go_loopw [23] (fun i wr => ∃ k : Nat, k ≤ 12 ∧ i = .int .i64 k ∧ Hid (UseSt w3 wr w3.heap.size c x vc vx k)) (fun i _ => 12 - (intOf i).toNat)
    case atStart => exact ⟨0, by omega, rfl, useSt_start w3 c x vc vx⟩
    case round =>
      obtain ⟨k, hk, rfl, HU⟩ := hrel
      obtain ⟨wo, rfl⟩ : ∃ wo, wo = wr := ⟨_, rfl⟩
      have hUlt := HU.out.lt
      have HBo : Hid (Base wo A w3.heap.size c x vc vx) := HBS.out.below HU.out.be
      by_cases hlt : k < 12
      · have d0 : wo.cell? ⟨A, k, none⟩ = some (.int .i32 (al k)) := cell_at HBo.out.alp (alphaV_at k hlt)
        have e3 : wo.cell? ⟨w3.heap.size + 1 + 1, k, none⟩ = some (.int .i64 ((if k < k then cn c x k else 0 : Nat) : Int)) := cell_at HU.out.ct (cntA_at c x k k hlt)
        have f3 : wo.frozen? ⟨w3.heap.size + 1 + 1, k, none⟩ = false := frozen_of_row _ _ k _ _ HU.out.ct
        have hbd := al_bd k hlt
        by_cases h9 : k < 9
        · have hH : isH (al k) = false := by rw [isH_al k hlt]; exact decide_eq_false (by omega)
          cases hck : c k with
          | some l =>
            have hu : useT c x k = some l := by unfold useT; rw [if_pos h9, hck]
            have q1 : wo.cell? ⟨A + 1, k, none⟩ = some (.bool true) := by have := cell_at HBo.out.cH (hasA_at c k hlt); rw [hck] at this; exact this
            obtain ⟨g, cap, hv, hg, hcg⟩ := HBo.out.cR k l hck
            have q2 : wo.cell? ⟨A + 1 + 1 + 1, k, none⟩ = some (.slice (some ⟨g, 0, none⟩) l.length cap) := by rw [← hv]; exact cell_at HBo.out.cI (idxA_at vc k hlt)
            have HIF : Hid ((if (c k).isSome then vc k else vx k) = .slice (some ⟨g, 0, none⟩) l.length cap) := by show _ = _; rw [hck]; exact hv
            clear hck hv
            have u2 : wo.cell? ⟨w3.heap.size, k, none⟩ = some (vu c x vc vx k k) := cell_at HU.out.us (idxA_at _ k hlt)
            have u3 : wo.frozen? ⟨w3.heap.size, k, none⟩ = false := frozen_of_row _ _ k _ _ HU.out.us
            have m2 : wo.cell? ⟨w3.heap.size + 1, k, none⟩ = some (.bool (tk (useT c x) k k).isSome) := cell_at HU.out.mp (hasA_at _ k hlt)
            have m3 : wo.frozen? ⟨w3.heap.size + 1, k, none⟩ = false := frozen_of_row _ _ k _ _ HU.out.mp
            have hl4 := (use_ok hcok hxok k l hu).2.1
            have HLT : Hid (∀ j ∈ l, j < k) := (use_ok hcok hxok k l hu).2.2
            have HCN : Hid (cn c x k = cfold (cn c x) l) := cn_mapped hcok hxok h9 hu
            have HUM := hide2 (HU.out.mapped hlt hu)
            have HCT : Hid (∀ j, j < 12 → wo.cell? ⟨w3.heap.size + 1 + 1, j, none⟩ = some (.int .i64 ((if j < k then cn c x j else 0 : Nat) : Int))) := fun j hj => cell_at HU.out.ct (cntA_at c x k j hj)
            have hgU : g ≠ w3.heap.size ∧ g ≠ w3.heap.size + 1 ∧ g ≠ w3.heap.size + 1 + 1 := by omega
            have HG : Hid (∀ j, j < l.length → wo.cell? ⟨g, j, none⟩ = some (.int .i64 ((l.getD j 0 : Nat) : Int))) := hcg
            have HHU := hide2 hu
            clear hcg hu
            go_wp2_with (first | (go_at_call 7; refine (hangul_any _ _ (by omega) (by omega)).mono ?_; rintro e w' ⟨rfl, hw'⟩; obtain rfl := hw'.symm))
            go_loop [24, 105] (fun a q => ∃ j : Nat, j ≤ l.length ∧ q = .int .i64 j ∧ a = .int .i64 (cfold (cn c x) (l.take j) : Int)) (fun _ q => l.length - (intOf q).toNat)
            case atStart => exact ⟨0, Nat.zero_le _, rfl, rfl⟩
            case round =>
              obtain ⟨j, hj, rfl, rfl⟩ := hrel
              have hcf := cfold_le (cn c x) (l.take j)
              by_cases hjl : j < l.length
              · obtain ⟨y, hy⟩ : ∃ y, y = l.getD j 0 := ⟨_, rfl⟩
                have hyl : y ∈ l := by rw [hy, List.getD_eq_getElem?_getD, List.getElem?_eq_getElem hjl]; exact List.getElem_mem hjl
                have hyk := HLT.out y hyl
                have g1 : wo.cell? ⟨g, j, none⟩ = some (.int .i64 (y : Int)) := by rw [hy]; exact HG.out j hjl
                have g2 : wo.cell? ⟨w3.heap.size + 1 + 1, y, none⟩ = some (.int .i64 (cn c x y : Int)) := by
                  have := HCT.out y (by omega)
                  rwa [if_pos hyk] at this
                have hcy := cn_le c x hcok hxok y
                have HSN : Hid (cfold (cn c x) (l.take (j + 1)) = cap1 (cfold (cn c x) (l.take j) + cn c x y)) := by
                  show _ = _
                  rw [← cfold_snoc, hy, List.take_succ_eq_append_getElem hjl, List.getD_eq_getElem?_getD, List.getElem?_eq_getElem hjl]; rfl
                clear hy e3
                by_cases hbig : (65536 : Int) < (cfold (cn c x) (l.take j) : Int) + (cn c x y : Int)
                · go_wp2
                  go_round
                  case rel => exact ⟨j + 1, by omega, by go_num, by rw [HSN.out, cap1, if_pos (by omega)]; rfl⟩
                  case measure => simp [intOf]; omega
                · go_wp2
                  go_round
                  case rel => exact ⟨j + 1, by omega, by go_num, by rw [HSN.out, cap1, if_neg (by omega)]; go_num⟩
                  case measure => simp [intOf]; omega
              · obtain rfl : j = l.length := by omega
                go_wp2
                go_roundw
                case rel =>
                  refine ⟨k + 1, by omega, by go_num, ?_⟩
                  have := HUM.out
                  rw [HIF.out] at this
                  rw [← HCN.out]
                  exact this
                case measure => simp [intOf]; omega
          | none =>
            have q1 : wo.cell? ⟨A + 1, k, none⟩ = some (.bool false) := by have := cell_at HBo.out.cH (hasA_at c k hlt); rw [hck] at this; exact this
            cases hxk : x k with
            | some l =>
              have hu : useT c x k = some l := by unfold useT; rw [if_pos h9, hck]; exact hxk
              have q1' : wo.cell? ⟨A + 1 + 1, k, none⟩ = some (.bool true) := by have := cell_at HBo.out.xH (hasA_at x k hlt); rw [hxk] at this; exact this
              obtain ⟨g, cap, hv, hg, hcg⟩ := HBo.out.xR k l hxk
              have q2 : wo.cell? ⟨A + 1 + 1 + 1 + 1, k, none⟩ = some (.slice (some ⟨g, 0, none⟩) l.length cap) := by rw [← hv]; exact cell_at HBo.out.xI (idxA_at vx k hlt)
              have HIF : Hid ((if (c k).isSome then vc k else vx k) = .slice (some ⟨g, 0, none⟩) l.length cap) := by show _ = _; rw [hck]; exact hv
              clear hck hxk hv
              have u2 : wo.cell? ⟨w3.heap.size, k, none⟩ = some (vu c x vc vx k k) := cell_at HU.out.us (idxA_at _ k hlt)
              have u3 : wo.frozen? ⟨w3.heap.size, k, none⟩ = false := frozen_of_row _ _ k _ _ HU.out.us
              have m2 : wo.cell? ⟨w3.heap.size + 1, k, none⟩ = some (.bool (tk (useT c x) k k).isSome) := cell_at HU.out.mp (hasA_at _ k hlt)
              have m3 : wo.frozen? ⟨w3.heap.size + 1, k, none⟩ = false := frozen_of_row _ _ k _ _ HU.out.mp
              have hl4 := (use_ok hcok hxok k l hu).2.1
              have HLT : Hid (∀ j ∈ l, j < k) := (use_ok hcok hxok k l hu).2.2
              have HCN : Hid (cn c x k = cfold (cn c x) l) := cn_mapped hcok hxok h9 hu
              have HUM := hide2 (HU.out.mapped hlt hu)
              have HCT : Hid (∀ j, j < 12 → wo.cell? ⟨w3.heap.size + 1 + 1, j, none⟩ = some (.int .i64 ((if j < k then cn c x j else 0 : Nat) : Int))) := fun j hj => cell_at HU.out.ct (cntA_at c x k j hj)
              have hgU : g ≠ w3.heap.size ∧ g ≠ w3.heap.size + 1 ∧ g ≠ w3.heap.size + 1 + 1 := by omega
              have HG : Hid (∀ j, j < l.length → wo.cell? ⟨g, j, none⟩ = some (.int .i64 ((l.getD j 0 : Nat) : Int))) := hcg
              have HHU := hide2 hu
              clear hcg hu
              go_wp2_with (first | (go_at_call 7; refine (hangul_any _ _ (by omega) (by omega)).mono ?_; rintro e w' ⟨rfl, hw'⟩; obtain rfl := hw'.symm))
              go_loop [24, 105] (fun a q => ∃ j : Nat, j ≤ l.length ∧ q = .int .i64 j ∧ a = .int .i64 (cfold (cn c x) (l.take j) : Int)) (fun _ q => l.length - (intOf q).toNat)
              case atStart => exact ⟨0, Nat.zero_le _, rfl, rfl⟩
              case round =>
                obtain ⟨j, hj, rfl, rfl⟩ := hrel
                have hcf := cfold_le (cn c x) (l.take j)
                by_cases hjl : j < l.length
                · obtain ⟨y, hy⟩ : ∃ y, y = l.getD j 0 := ⟨_, rfl⟩
                  have hyl : y ∈ l := by rw [hy, List.getD_eq_getElem?_getD, List.getElem?_eq_getElem hjl]; exact List.getElem_mem hjl
                  have hyk := HLT.out y hyl
                  have g1 : wo.cell? ⟨g, j, none⟩ = some (.int .i64 (y : Int)) := by rw [hy]; exact HG.out j hjl
                  have g2 : wo.cell? ⟨w3.heap.size + 1 + 1, y, none⟩ = some (.int .i64 (cn c x y : Int)) := by
                    have := HCT.out y (by omega)
                    rwa [if_pos hyk] at this
                  have hcy := cn_le c x hcok hxok y
                  have HSN : Hid (cfold (cn c x) (l.take (j + 1)) = cap1 (cfold (cn c x) (l.take j) + cn c x y)) := by
                    show _ = _
                    rw [← cfold_snoc, hy, List.take_succ_eq_append_getElem hjl, List.getD_eq_getElem?_getD, List.getElem?_eq_getElem hjl]; rfl
                  clear hy e3
                  by_cases hbig : (65536 : Int) < (cfold (cn c x) (l.take j) : Int) + (cn c x y : Int)
                  · go_wp2
                    go_round
                    case rel => exact ⟨j + 1, by omega, by go_num, by rw [HSN.out, cap1, if_pos (by omega)]; rfl⟩
                    case measure => simp [intOf]; omega
                  · go_wp2
                    go_round
                    case rel => exact ⟨j + 1, by omega, by go_num, by rw [HSN.out, cap1, if_neg (by omega)]; go_num⟩
                    case measure => simp [intOf]; omega
                · obtain rfl : j = l.length := by omega
                  go_wp2
                  go_roundw
                  case rel =>
                    refine ⟨k + 1, by omega, by go_num, ?_⟩
                    have := HUM.out
                    rw [HIF.out] at this
                    rw [← HCN.out]
                    exact this
                  case measure => simp [intOf]; omega
            | none =>
              have hu : useT c x k = none := by unfold useT; rw [if_pos h9, hck]; exact hxk
              have q1' : wo.cell? ⟨A + 1 + 1, k, none⟩ = some (.bool false) := by have := cell_at HBo.out.xH (hasA_at x k hlt); rw [hxk] at this; exact this
              have m2 : wo.cell? ⟨w3.heap.size + 1, k, none⟩ = some (.bool false) := by have := cell_at HU.out.mp (hasA_at _ k hlt); rw [tk_at] at this; exact this
              have HCN : Hid (cn c x k = 1) := cn_bare h9 hu
              have HHU := hide2 hu
              clear hck hxk hu
              go_wp2_with (first | (go_at_call 7; refine (hangul_any _ _ (by omega) (by omega)).mono ?_; rintro e w' ⟨rfl, hw'⟩; obtain rfl := hw'.symm))
              go_roundw
              case rel =>
                refine ⟨k + 1, by omega, by go_num, ?_⟩
                have := HU.out.count hlt HHU.out (Below.refl _ _)
                rw [HCN.out] at this
                exact this
              case measure => simp [intOf]; omega
        · have hH : isH (al k) = true := by rw [isH_al k hlt]; exact decide_eq_true (by omega)
          have HCN : Hid (cn c x k = (jamoL (al k)).length) := cn_hangul h9
          go_wp2_with (first | (go_at_call 7; refine (hangul_any _ _ (by omega) (by omega)).mono ?_; rintro e w' ⟨rfl, hw'⟩; obtain rfl := hw'.symm) | (go_at_call 8; refine (jamo_any _ _ hH).mono ?_; rintro e w4 ⟨g, cp, rfl, hrow, hB4⟩; have e4 := (hB4.cell (p := ⟨w3.heap.size + 1 + 1, k, none⟩) hUlt).trans e3; have f4 := (hB4.frozen (p := ⟨w3.heap.size + 1 + 1, k, none⟩) hUlt).trans f3; clear hrow))
          go_roundw
          case rel =>
            refine ⟨k + 1, by omega, by go_num, ?_⟩
            have := HU.out.count hlt (useT_hi h9) hB4
            rw [HCN.out] at this
            exact this
          case measure => simp [intOf]; omega
      · obtain rfl : k = 12 := by omega
        have HUo := hide2 HU.out
        clear HU
        go_wp2
        go_meet
        case rel => exact HUo.out
  case rest =>
    have hBo := HBS.out.below hcut.out.be
    rename_i hkk
    refine hkk _ _ ?_
    exact m2 ao lo co raw useRaw pick ac ax lc cc lx cx nl A w3.heap.size c x vc vx LO w w3 wc hcok hxok hraw0 hraw1 hpick hlo HOut.out HCo.out HEnd.out hBo hcut.out (hB3.trans (hcut.out.be.mono hB3.size)) _ _ _ _ _ _ _ _ _ _ _ _ _ _ _ _ _ _ _ _ _ _ _ _ _ _ _ _ _ _ _ _ _ _ _ _ _ _ _ _ _ _ _ _ _ _ _ _ _ _ _ _ _ _ _ _ _ _ _ _ _ _ _ _ _ _ _ _ _ _ _ _ _ _ _ _ _ _ _ _ _ _ _ _ _ _ _ _ _ _ _ _ _ _ _ _ _ _ _ _ _ _ _ _ _ _ _ _ _ _ _ _ _ _ _ _ _ _ _ _ _ _ _ _ _ _ _ _ _ _ _ _ _ _ _ _ _ _ _ _ _ _ _ _ _ _ _ _ _ _ _ _ _ _ _ _ _ _ _ _ _ _ _ _ _ _ _ _ _ _ _ _ _ _ _ _ _ _ _ _ _ _ _ _ _ _ _ _ _ _ _ _ _ _ _ _ _ _ _ _ _ _ _ _ _ _ _ _ _ _ _ _ _ _ _ _ _ _ _ _ _ _ _ _ _ _ _ _ _ _
end Go.Proofs.Ybulkdjhw.A
