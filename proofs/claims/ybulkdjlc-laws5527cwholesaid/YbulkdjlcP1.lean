import Derived.Test.YbulkdjlcGet
import Derived.WalkKit
import Derived.WalkSpells
import Derived.BigQuiet
import Derived.Deep.QuietTactic
import Derived.Deep.DeepCutAuto
import Derived.Deep.CutBlock
import Derived.Test.YbulkdjlcDd
import Derived.Test.YbulkdjlcP2
namespace Go.Proofs.Ybulkdjlc.C
open Go.RowKit Go.MuLone
set_option linter.unusedVariables false
set_option maxRecDepth 100000 in
set_option maxHeartbeats 4000000 in
theorem p1 (w : World) (sz : Int) (a0 : Option Addr) (len0 cap0 : Nat) (zs : Nat → Int) (hl : len0 ≤ 4096) (hz : ∀ i, i < len0 → ∃ x, a0 = some x ∧ w.cell? (x.add i) = some (.int .i64 (zs i)) ∧ (Lit.int .i64 (zs i)).wf = true)
    (at_ pick : Int) (hat : (Lit.int .i64 at_).wf = true) (hp0 : 0 ≤ pick) (hp1 : pick ≤ 255)
    (z4 z5 z6 z7 z8 z9 z10 z11 z12 z13 z14 z15 z16 z17 z18 z19 z20 z21 z22 z23 z24 z25 z26 z27 z28 z29 z30 z31 z32 z33 z34 z35 z36 z37 z38 z39 z40 z41 z42 z43 z44 z45 z46 z47 z48 z49 z50 z51 z52 z53 z54 z55 z56 z57 z58 z59 z60 z61 z62 z63 z64 z65 z66 z67 z68 z69 z70 z71 z72 z73 z74 z75 z76 z77 z78 z79 z80 z81 z82 z83 z84 z85 z86 z87 z88 z89 z90 z91 z92 z93 z94 z95 z96 z97 z98 z99 z100 z101 z102 z103 z104 z105 z106 z107 z108 z109 z110 z111 z112 z113 z114 z115 z116 z117 z118 z119 z120 z121 z122 z123 z124 z125 z126 z127 z128 z129 z130 z131 z132 z133 z134 z135 z136 z137 z138 z139 z140 z141 z142 z143 z144 z145 z146 z147 z148 z149 z150 z151 z152 z153 z154 z155 z156 z157 z158 z159 z160 z161 z162 z163 z164 z165 z166 z167 z168 z169 z170 z171 z172 z173 z174 z175 z176 z177 z178 z179 z180 z181 z182 z183 z184 z185 z186 z187 z188 z189 z190 z191 z192 z193 z194 z195 z196 z197 z198 z199 z200 z201 z202 z203 z204 z205 z206 z207 z208 z209 z210 z211 z212 z213 z214 z215 z216 z217 z218 z219 z220 z221 z222 z223 z224 z225 z226 z227 z228 z229 z230 z231 z232 z233 z234 z235 z236 z237 z238 z239 z240 z241 z242 z243 z244 z245 z246 z247 z248 z249 z250 z251 z252 z253 z254 z255 z256 z257 z258 z259 z260 z261 z262 z263 z264 z265 z266 z267 z268 z269 z270 z271 z272 z273 z274 z275 z276 z277 z278 z279 z280 z281 z282 z283 z284 z285 z286 z287 z288 z289 z290 z291 : Value) :
    Code.wp Yba.prog (fromReg 3 (Yba.f3.body.getD .skip)) (bodyPost Yba.prog Yba.f3 fun e w' => e = .returned (.bool true) ∧ Below w.heap.size w w') ⟨#[.slice a0 len0 cap0, .int .i64 at_, .int .u8 pick, .int .i64 sz, z4, z5, z6, z7, z8, z9, z10, z11, z12, z13, z14, z15, z16, z17, z18, z19, z20, z21, z22, z23, z24, z25, z26, z27, z28, z29, z30, z31, z32, z33, z34, z35, z36, z37, z38, z39, z40, z41, z42, z43, z44, z45, z46, z47, z48, z49, z50, z51, z52, z53, z54, z55, z56, z57, z58, z59, z60, z61, z62, z63, z64, z65, z66, z67, z68, z69, z70, z71, z72, z73, z74, z75, z76, z77, z78, z79, z80, z81, z82, z83, z84, z85, z86, z87, z88, z89, z90, z91, z92, z93, z94, z95, z96, z97, z98, z99, z100, z101, z102, z103, z104, z105, z106, z107, z108, z109, z110, z111, z112, z113, z114, z115, z116, z117, z118, z119, z120, z121, z122, z123, z124, z125, z126, z127, z128, z129, z130, z131, z132, z133, z134, z135, z136, z137, z138, z139, z140, z141, z142, z143, z144, z145, z146, z147, z148, z149, z150, z151, z152, z153, z154, z155, z156, z157, z158, z159, z160, z161, z162, z163, z164, z165, z166, z167, z168, z169, z170, z171, z172, z173, z174, z175, z176, z177, z178, z179, z180, z181, z182, z183, z184, z185, z186, z187, z188, z189, z190, z191, z192, z193, z194, z195, z196, z197, z198, z199, z200, z201, z202, z203, z204, z205, z206, z207, z208, z209, z210, z211, z212, z213, z214, z215, z216, z217, z218, z219, z220, z221, z222, z223, z224, z225, z226, z227, z228, z229, z230, z231, z232, z233, z234, z235, z236, z237, z238, z239, z240, z241, z242, z243, z244, z245, z246, z247, z248, z249, z250, z251, z252, z253, z254, z255, z256, z257, z258, z259, z260, z261, z262, z263, z264, z265, z266, z267, z268, z269, z270, z271, z272, z273, z274, z275, z276, z277, z278, z279, z280, z281, z282, z283, z284, z285, z286, z287, z288, z289, z290, z291], []⟩ w := by
  have HZ := hide2 hz
  clear hz
  conv => arg 2; whnf
  go_upto_block 0 with fail
  go_cut [9] from 29 (fun s wx => ∃ L, Hid (Dd w wx L s len0))
  case first =>
    go_wp2_with fail
    go_loopw [9, 34] (fun s q wr => ∃ i : Nat, i ≤ len0 ∧ q = .int .i64 i ∧ ∃ L, Hid (Dd w wr L s i)) (fun _ q _ => len0 - (intOf q).toNat)
    case atStart => exact ⟨0, by omega, rfl, [], Dd.start w⟩
    case round =>
      rename_i wr
      obtain ⟨i, hi, rfl, L, HD⟩ := hrel
      by_cases hin : i < len0
      · obtain ⟨x, hx, hcx0, hwx⟩ := HZ.out i hin
        subst hx
        have hcx : wr.cell? (x.add i) = some (.int .i64 (zs i)) := (HD.out.be.cell (p := x.add i) (block_lt_of_cell hcx0)).trans hcx0
        have HWX := hide2 hwx
        obtain ⟨ua, ucap, hs, hub, hu⟩ := HD.out.slice
        subst hs
        have HU := hide2 hu
        have hlen : L.length ≤ 4096 := by have := HD.out.len; omega
        clear hcx0 hwx hub hu
        go_upto_block 2 with fail
        go_cut [12] from 40 to 47 (fun s wx => wx = wr ∧ s = .bool (decide (zs i ∈ L)))
        case first =>
          go_wp2_with fail
          go_loopw [12, 40] (fun d q wq => ∃ k : Nat, k ≤ L.length ∧ d = .bool false ∧ q = .int .i64 k ∧ wq = wr ∧ Hid (∀ j, j < k → L.getD j 0 ≠ zs i)) (fun _ q _ => L.length - (intOf q).toNat)
          case atStart => exact ⟨0, by omega, rfl, rfl, rfl, fun j hj => (by omega)⟩
          case round =>
            obtain ⟨k, hk, rfl, rfl, rfl, HS⟩ := hrel
            by_cases hkn : k < L.length
            · obtain ⟨ub, hua, hlt, d3⟩ := HU.out k hkn
              subst hua
              by_cases he : L.getD k 0 = zs i
              · have HM := hide2 (mem_of hkn he)
                obtain ⟨u, hu⟩ : ∃ u, u = L.getD k 0 := ⟨_, rfl⟩
                rw [← hu] at d3 he
                clear hu
                go_wp2_with fail
                go_meet
                case rel => exact ⟨rfl, by rw [decide_eq_true HM.out]⟩
              · have HN := hide2 he
                obtain ⟨u, hu⟩ : ∃ u, u = L.getD k 0 := ⟨_, rfl⟩
                rw [← hu] at d3 he
                clear hu
                go_wp2_with fail
                go_roundw
                case rel => exact ⟨k + 1, by omega, by first | rfl | trivial, by go_num, by first | rfl | trivial, fun j hj => by by_cases e : j = k; subst e; exact HN.out; exact HS.out j (by omega)⟩
                case measure => simp [intOf]; omega
            · obtain rfl : k = L.length := by omega
              go_wp2
              go_meet
              case rel => exact ⟨rfl, by rw [decide_eq_false (not_mem_of HS.out)]⟩
        case rest =>
          obtain ⟨rfl, rfl⟩ := hcut
          by_cases hm : zs i ∈ L
          · rw [decide_eq_true hm]
            clear hm
            go_wp2_with fail
            go_roundw
            case rel => exact ⟨i + 1, by omega, by go_num, L, HD.out.next⟩
            case measure => simp [intOf]; omega
          · rw [decide_eq_false hm]
            have HM := hide2 hm
            clear hm
            obtain ⟨i0, hi0, hz0, hz1, hz2⟩ := info2_parts
            have hrow := HD.out.row
            have hsz := HD.out.be.size
            go_wp2_with (at_builtin; refine wpList_append_own _ rfl _ _ 22 rfl w.heap.size 2 i0 (.int .i64 0) 1 8 Yba.underlying22 hi0 hz0 hz1 hz2 rfl (by decide) _ _ _ rfl (hrow.alloc _) ⟨_, 0, none⟩ 1 1 ([zs i].map (Value.int .i64)) rfl rfl (cells_new_at rfl rfl) (ints_oneCell _ _) (by unfold maxLen; omega) (by omega) (by simp; omega) ?_; intro v' w1 hown hgrow _; have HO := hide2 hown; have HR := hide2 hgrow; clear hown hgrow)
            go_roundw
            case rel => exact ⟨i + 1, by omega, by go_num, L ++ [zs i], HD.out.snoc HM.out HWX.out HO.out HR.out⟩
            case measure => simp [intOf]; omega
      · obtain rfl : i = len0 := by omega
        go_wp2
        go_meet
        case rel => exact ⟨L, HD.out⟩
  case rest =>
    obtain ⟨L, HD⟩ := hcut
    obtain ⟨ua, ucap, hs, hub, hu⟩ := HD.out.slice
    subst hs
    have hlen := HD.out.len
    rename_i hk
    refine hk _ _ ?_
    exact p2 w _ sz ucap L.length (fun j => L.getD j 0) ua (by omega) HD.out.be hub hu HD.out.wfu HD.out.inj at_ pick hat hp0 hp1 _ _ _ _ _ _ _ _ _ _ _ _ _ _ _ _ _ _ _ _ _ _ _ _ _ _ _ _ _ _ _ _ _ _ _ _ _ _ _ _ _ _ _ _ _ _ _ _ _ _ _ _ _ _ _ _ _ _ _ _ _ _ _ _ _ _ _ _ _ _ _ _ _ _ _ _ _ _ _ _ _ _ _ _ _ _ _ _ _ _ _ _ _ _ _ _ _ _ _ _ _ _ _ _ _ _ _ _ _ _ _ _ _ _ _ _ _ _ _ _ _ _ _ _ _ _ _ _ _ _ _ _ _ _ _ _ _ _ _ _ _ _ _ _ _ _ _ _ _ _ _ _ _ _ _ _ _ _ _ _ _ _ _ _ _ _ _ _ _ _ _ _ _ _ _ _ _ _ _ _ _ _ _ _ _ _ _ _ _ _ _ _ _ _ _ _ _ _ _ _ _ _ _ _ _ _ _ _ _ _ _ _ _ _ _ _ _ _ _ _ _ _ _ _ _ _ _ _ _ _ _ _ _ _ _ _ _ _ _ _ _ _ _ _ _ _ _ _ _ _ _ _ _ _ _ _ _ _ _ _ _ _ _ _ _ _ _ _ _ _ _ _ _ _ _ _ _ _ _ _ _ _ _ _ _ _ _ _
end Go.Proofs.Ybulkdjlc.C
