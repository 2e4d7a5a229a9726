import Derived.Test.YbulkdjlcGet
import Derived.WalkKit
import Derived.WalkSpells
import Derived.BigQuiet
import Derived.Deep.QuietTactic
import Derived.Deep.DeepCutAuto
import Derived.Deep.CutBlock
import Derived.Test.YbulkdjlcGrow
import Derived.Test.YbulkdjlcP5
import Derived.Deep.RegionWith
namespace Go.Proofs.Ybulkdjlc.C
open Go.RowKit Go.MuLone
set_option linter.unusedVariables false
set_option maxRecDepth 100000 in
set_option maxHeartbeats 4000000 in
theorem p4 (w wf : World) (sz : Int) (ucap cb B0 el rl n M : Nat) (us : Nat → Int) (ua : Option Addr) (nilI : Value) (b : Bu w wf cb M B0 el rl n sz us ua nilI 0) (hub : ∀ ub, ua = some ⟨ub, 0, none⟩ → ub < M) (at_ : Int) (hat : (Lit.int .i64 at_).wf = true)
    (z0 z2 z4 z5 z6 z7 z8 z10 z11 z12 z13 z14 z19 z20 z21 z22 z23 z24 z25 z26 z27 z28 z29 z30 z31 z32 z33 z34 z35 z36 z37 z38 z39 z40 z41 z42 z43 z44 z45 z46 z47 z48 z49 z50 z51 z52 z53 z54 z55 z56 z57 z58 z59 z60 z61 z62 z63 z64 z65 z66 z67 z68 z69 z70 z71 z72 z73 z74 z75 z76 z77 z78 z79 z80 z81 z82 z83 z84 z85 z86 z87 z88 z89 z90 z91 z92 z93 z94 z95 z96 z97 z98 z99 z100 z101 z102 z103 z104 z105 z106 z107 z108 z109 z110 z111 z112 z113 z114 z115 z116 z117 z118 z119 z120 z121 z122 z123 z124 z125 z126 z127 z128 z129 z130 z131 z132 z133 z134 z135 z136 z137 z138 z139 z140 z141 z142 z143 z144 z145 z146 z147 z148 z149 z150 z151 z152 z153 z154 z155 z156 z157 z158 z159 z160 z161 z162 z163 z164 z165 z166 z167 z168 z169 z170 z171 z172 z173 z174 z175 z176 z177 z178 z179 z180 z181 z182 z183 z184 z185 z186 z187 z188 z189 z190 z191 z192 z193 z194 z195 z196 z197 z198 z199 z200 z201 z202 z203 z204 z205 z206 z207 z208 z209 z210 z211 z212 z213 z214 z215 z216 z217 z218 z219 z220 z221 z222 z223 z224 z225 z226 z227 z228 z229 z230 z231 z232 z233 z234 z235 z236 z237 z238 z239 z240 z241 z242 z243 z244 z245 z246 z247 z248 z249 z250 z251 z252 z253 z254 z255 z256 z257 z258 z259 z260 z261 z262 z263 z264 z265 z266 z267 z268 z269 z270 z271 z272 z273 z274 z275 z276 z277 z278 z279 z280 z281 z282 z283 z284 z285 z286 z287 z288 z289 z290 z291 : Value) :
    Code.wp Yba.prog (fromReg 23 (Yba.f3.body.getD .skip)) (bodyPost Yba.prog Yba.f3 fun e w' => e = .returned (.bool true) ∧ Below w.heap.size w w') ⟨#[z0, .int .i64 at_, z2, .int .i64 sz, z4, z5, z6, z7, z8, .slice ua n ucap, z10, z11, z12, z13, z14, .int .i64 n, ptr cb, .slice (some ⟨el, 0, none⟩) n n, .slice (some ⟨rl, 0, none⟩) n n, z19, z20, z21, z22, z23, z24, z25, z26, z27, z28, z29, z30, z31, z32, z33, z34, z35, z36, z37, z38, z39, z40, z41, z42, z43, z44, z45, z46, z47, z48, z49, z50, z51, z52, z53, z54, z55, z56, z57, z58, z59, z60, z61, z62, z63, z64, z65, z66, z67, z68, z69, z70, z71, z72, z73, z74, z75, z76, z77, z78, z79, z80, z81, z82, z83, z84, z85, z86, z87, z88, z89, z90, z91, z92, z93, z94, z95, z96, z97, z98, z99, z100, z101, z102, z103, z104, z105, z106, z107, z108, z109, z110, z111, z112, z113, z114, z115, z116, z117, z118, z119, z120, z121, z122, z123, z124, z125, z126, z127, z128, z129, z130, z131, z132, z133, z134, z135, z136, z137, z138, z139, z140, z141, z142, z143, z144, z145, z146, z147, z148, z149, z150, z151, z152, z153, z154, z155, z156, z157, z158, z159, z160, z161, z162, z163, z164, z165, z166, z167, z168, z169, z170, z171, z172, z173, z174, z175, z176, z177, z178, z179, z180, z181, z182, z183, z184, z185, z186, z187, z188, z189, z190, z191, z192, z193, z194, z195, z196, z197, z198, z199, z200, z201, z202, z203, z204, z205, z206, z207, z208, z209, z210, z211, z212, z213, z214, z215, z216, z217, z218, z219, z220, z221, z222, z223, z224, z225, z226, z227, z228, z229, z230, z231, z232, z233, z234, z235, z236, z237, z238, z239, z240, z241, z242, z243, z244, z245, z246, z247, z248, z249, z250, z251, z252, z253, z254, z255, z256, z257, z258, z259, z260, z261, z262, z263, z264, z265, z266, z267, z268, z269, z270, z271, z272, z273, z274, z275, z276, z277, z278, z279, z280, z281, z282, z283, z284, z285, z286, z287, z288, z289, z290, z291], []⟩ wf := by
  have HB := hide2 b
  have HUB := hide2 hub
  have hn := b.hn
  clear b hub
  conv => arg 2; whnf
  go_upto_block 4 with fail
  go_cut [] from 29 (fun wx => Hid (Bu w wx cb M B0 el rl n sz us ua nilI n))
  case first =>
    go_wp2_with fail
    go_loopw [19] (fun q wr => ∃ j : Nat, j ≤ n ∧ q = .int .i64 j ∧ Hid (Bu w wr cb M B0 el rl n sz us ua nilI j)) (fun q _ => n - (intOf q).toNat)
    case atStart => exact ⟨0, by omega, rfl, HB.out⟩
    case round =>
      rename_i wr
      obtain ⟨j, hj, rfl, HJ⟩ := hrel
      by_cases hjn : j < n
      · go_upto_block 5 with fail
        go_cut [] from 80 to 121 (fun wx => Hid (Bu w wx cb M B0 el rl n sz us ua nilI (j + 1)))
        case first =>
          obtain ⟨cr, hrl, hcr⟩ := HJ.out.rls
          have d2 := cell_at hrl (hcr _ hjn)
          have g2 := frozen_of_row _ _ j _ _ hrl
          have l1 : rl < wr.heap.size := lt_of_block hrl
          have l2 : rl < wr.heap.size + 1 := by omega
          clear hrl hcr
          go_upto_region 26 with fail
          go_cut [] from 80 to 121 (fun wx => Hid (Bg w wx cb M B0 el rl n sz us ua nilI j (j + 1) j (B0 + 4 * j + 2)))
          case first =>
            go_wp2_with fail
            go_meet
            case rel =>
              refine Bg.record HJ.out.toBg hjn _ ?_
              rw [← HJ.out.hsz]
          case rest =>
            clear d2 g2 HJ l1 l2
            rename_i wx
            have HG := hide2 hcut.out
            clear hcut
            go_upto_region 27 with fail
            go_cut [] from 80 to 121 (fun wx => Hid (Bg w wx cb M B0 el rl n sz us ua nilI (j + 1) (j + 1) j (B0 + 4 * (j + 1))))
            case first =>
              obtain ⟨cr, hrl, hcr⟩ := HG.out.rls
              have d2 := cell_at hrl (hcr _ hjn)
              rw [if_pos (show j < j + 1 by omega)] at d2
              obtain ⟨ub, rfl, _, d3⟩ := HG.out.uq _ hjn
              have HP : Hid (∀ v, Bg w v cb M B0 el rl n sz us (some ⟨ub, 0, none⟩) nilI j (j + 1) j (B0 + 4 * j + 2) → Calls Yba.prog 4 #[.pointer (some ⟨cb, 3, none⟩), (.iface 48 (.pointer (some ⟨v.heap.size, 0, none⟩)))] (v.alloc (.cells #[.int .i64 (us j), ptr (B0 + 4 * j + 1)] 50)).drew fun e w' => e = .returned (ptr (B0 + 4 * j + 3)) ∧
        (∃ v, w'.cell? ⟨el, j, none⟩ = some v) ∧ w'.frozen? ⟨el, j, none⟩ = false ∧ Hid (Bg w (w'.setCell ⟨el, j, none⟩ (ptr (B0 + 4 * j + 3))) cb M B0 el rl n sz us (some ⟨ub, 0, none⟩) nilI (j + 1) (j + 1) j (B0 + 4 * (j + 1)))) := fun v hv => by
                rw [hv.hsz]; exact hv.drew.push hjn
              clear hrl hcr
              go_region_with (go_at_call 4; refine (HP.out _ HG.out).mono ?_; rintro e w' ⟨rfl, ⟨v0, d4⟩, g4, H4⟩)
              all_goals (go_wp2_with fail; go_meet)
              all_goals (case rel => exact H4)
            case rest =>
              clear HG
              rename_i wy
              have HG := hide2 hcut.out
              clear hcut
              obtain ⟨ce, hel, hce⟩ := HG.out.els
              have d1 := cell_at hel (hce _ hjn)
              rw [if_pos (show j < j + 1 by omega)] at d1
              obtain ⟨ub, rfl, _, d3⟩ := HG.out.uq _ hjn
              have c8 := cell_at (i := 8) HG.out.cC rfl
              obtain ⟨w', hrun, hbu⟩ := HG.out.drew.put hjn
              have HN := hide2 hbu
              clear hel hce hbu
              go_upto_region 28 with fail
              go_region
              all_goals (go_wp2_with fail; go_meet)
              all_goals (case rel => exact HN.out)
        case rest =>
          clear HJ
          have HN := hide2 hcut.out
          clear hcut
          go_wp2_with fail
          go_roundw
          case rel => exact ⟨j + 1, by omega, by go_num, HN.out⟩
          case measure => simp [intOf]; omega
      · obtain rfl : j = n := by omega
        go_wp2
        go_meet
        case rel => exact HJ.out
  case rest =>
    rename_i hk
    refine hk _ _ ?_
    exact p5 w _ sz ucap cb B0 el rl n M us ua nilI hcut.out HUB.out at_ hat _ _ _ _ _ _ _ _ _ _ _ _ _ _ _ _ _ _ _ _ _ _ _ _ _ _ _ _ _ _ _ _ _ _ _ _ _ _ _ _ _ _ _ _ _ _ _ _ _ _ _ _ _ _ _ _ _ _ _ _ _ _ _ _ _ _ _ _ _ _ _ _ _ _ _ _ _ _ _ _ _ _ _ _ _ _ _ _ _ _ _ _ _ _ _ _ _ _ _ _ _ _ _ _ _ _ _ _ _ _ _ _ _ _ _ _ _ _ _ _ _ _ _ _ _ _ _ _ _ _ _ _ _ _ _ _ _ _ _ _ _ _ _ _ _ _ _ _ _ _ _ _ _ _ _ _ _ _ _ _ _ _ _ _ _ _ _ _ _ _ _ _ _ _ _ _ _ _ _ _ _ _ _ _ _ _ _ _ _ _ _ _ _ _ _ _ _ _ _ _ _ _ _ _ _ _ _ _ _ _ _ _ _ _ _ _ _ _ _ _ _ _ _ _ _ _ _ _ _ _ _ _ _ _ _ _ _ _ _ _ _ _ _ _ _ _ _ _ _ _ _ _ _ _ _ _ _ _ _ _ _ _ _ _ _ _ _ _ _ _ _ _ _ _ _ _ _ _ _ _ _ _ _ _ _
end Go.Proofs.Ybulkdjlc.C
