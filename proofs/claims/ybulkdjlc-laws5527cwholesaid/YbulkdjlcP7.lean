import Derived.Test.YbulkdjlcGet
import Derived.WalkKit
import Derived.WalkSpells
import Derived.BigQuiet
import Derived.Deep.QuietTactic
import Derived.Deep.DeepCutAuto
import Derived.Deep.CutBlock
import Derived.Test.YbulkdjlcState
import Derived.Test.YbulkdjlcP8

namespace Go.Proofs.Ybulkdjlc.C
open Go.RowKit Go.MuLone
set_option linter.unusedVariables false
theorem Fin.drewN {w : World} {cb B0 el rl n : Nat} {h : Int} {us : Nat → Int} {ua : Option Addr} (F : Fin w cb B0 el rl n h us ua) {m : Nat} : Fin (w.drewN m) cb B0 el rl n h us ua :=
  ⟨F.hn, F.hh, F.hcb, F.hel, F.hrl, F.hne, F.cc, F.els, F.rls, F.uq, F.E, F.Q, F.R, F.S⟩
set_option maxRecDepth 100000 in
set_option maxHeartbeats 4000000 in
theorem p7 (w wf : World) (sz : Int) (ucap cb B0 el rl n M : Nat) (h : Int) (us : Nat → Int) (ua : Option Addr) (F : Fin wf cb B0 el rl n h us ua) (hbe : Below w.heap.size w wf) (c8 : wf.cell? ⟨cb, 8, none⟩ = some (.map (some M)))
    (hl : ∀ j, j < n → ∀ m, (Instr.lookup 24 (.map (some M)) (.int .i64 (us j)) false).run Yba.prog (wf.drewN m) = .ok (ptr (B0 + 4 * j + 3)) (wf.drewN m))
    (z0 z1 z2 z4 z5 z6 z7 z8 z10 z11 z12 z13 z14 z19 z21 z22 z23 z24 z25 z26 z27 z28 z29 z30 z31 z32 z33 z34 z35 z36 z37 z38 z39 z40 z41 z42 z43 z44 z45 z46 z47 z48 z49 z50 z51 z52 z53 z54 z55 z56 z57 z58 z59 z60 z61 z62 z63 z64 z65 z66 z67 z68 z69 z70 z71 z72 z73 z74 z75 z76 z77 z78 z79 z80 z81 z82 z83 z84 z85 z86 z87 z88 z89 z90 z91 z92 z93 z94 z95 z96 z97 z98 z99 z100 z101 z102 z103 z104 z105 z106 z107 z108 z109 z110 z111 z112 z113 z114 z115 z116 z117 z118 z119 z120 z121 z122 z123 z124 z125 z126 z127 z128 z129 z130 z131 z132 z133 z134 z135 z136 z137 z138 z139 z140 z141 z142 z143 z144 z145 z146 z147 z148 z149 z150 z151 z152 z153 z154 z155 z156 z157 z158 z159 z160 z161 z162 z163 z164 z165 z166 z167 z168 z169 z170 z171 z172 z173 z174 z175 z176 z177 z178 z179 z180 z181 z182 z183 z184 z185 z186 z187 z188 z189 z190 z191 z192 z193 z194 z195 z196 z197 z198 z199 z200 z201 z202 z203 z204 z205 z206 z207 z208 z209 z210 z211 z212 z213 z214 z215 z216 z217 z218 z219 z220 z221 z222 z223 z224 z225 z226 z227 z228 z229 z230 z231 z232 z233 z234 z235 z236 z237 z238 z239 z240 z241 z242 z243 z244 z245 z246 z247 z248 z249 z250 z251 z252 z253 z254 z255 z256 z257 z258 z259 z260 z261 z262 z263 z264 z265 z266 z267 z268 z269 z270 z271 z272 z273 z274 z275 z276 z277 z278 z279 z280 z281 z282 z283 z284 z285 z286 z287 z288 z289 z290 z291 : Value) :
    Code.wp Yba.prog (fromReg 48 (Yba.f3.body.getD .skip)) (bodyPost Yba.prog Yba.f3 fun e w' => e = .returned (.bool true) ∧ Below w.heap.size w w') ⟨#[z0, z1, z2, .int .i64 sz, z4, z5, z6, z7, z8, .slice ua n ucap, z10, z11, z12, z13, z14, .int .i64 n, ptr cb, .slice (some ⟨el, 0, none⟩) n n, .slice (some ⟨rl, 0, none⟩) n n, z19, .int .i64 h, z21, z22, z23, z24, z25, z26, z27, z28, z29, z30, z31, z32, z33, z34, z35, z36, z37, z38, z39, z40, z41, z42, z43, z44, z45, z46, z47, z48, z49, z50, z51, z52, z53, z54, z55, z56, z57, z58, z59, z60, z61, z62, z63, z64, z65, z66, z67, z68, z69, z70, z71, z72, z73, z74, z75, z76, z77, z78, z79, z80, z81, z82, z83, z84, z85, z86, z87, z88, z89, z90, z91, z92, z93, z94, z95, z96, z97, z98, z99, z100, z101, z102, z103, z104, z105, z106, z107, z108, z109, z110, z111, z112, z113, z114, z115, z116, z117, z118, z119, z120, z121, z122, z123, z124, z125, z126, z127, z128, z129, z130, z131, z132, z133, z134, z135, z136, z137, z138, z139, z140, z141, z142, z143, z144, z145, z146, z147, z148, z149, z150, z151, z152, z153, z154, z155, z156, z157, z158, z159, z160, z161, z162, z163, z164, z165, z166, z167, z168, z169, z170, z171, z172, z173, z174, z175, z176, z177, z178, z179, z180, z181, z182, z183, z184, z185, z186, z187, z188, z189, z190, z191, z192, z193, z194, z195, z196, z197, z198, z199, z200, z201, z202, z203, z204, z205, z206, z207, z208, z209, z210, z211, z212, z213, z214, z215, z216, z217, z218, z219, z220, z221, z222, z223, z224, z225, z226, z227, z228, z229, z230, z231, z232, z233, z234, z235, z236, z237, z238, z239, z240, z241, z242, z243, z244, z245, z246, z247, z248, z249, z250, z251, z252, z253, z254, z255, z256, z257, z258, z259, z260, z261, z262, z263, z264, z265, z266, z267, z268, z269, z270, z271, z272, z273, z274, z275, z276, z277, z278, z279, z280, z281, z282, z283, z284, z285, z286, z287, z288, z289, z290, z291], []⟩ wf := by
  have HF := hide2 F
  have HB := hide2 hbe
  have HL := hide2 hl
  have hn := F.hn
  have hh := F.hh
  have HC8 := hide2 c8
  clear F hbe hl
  conv => arg 2; whnf
  go_upto_block 8 with fail
  go_cut [] from 29 (fun wx => ∃ m, wx = wf.drewN m)
  case first =>
    go_wp2_with fail
    go_loopw [23] (fun q wr => ∃ j : Nat, j ≤ n ∧ q = .int .i64 j ∧ ∃ m, wr = wf.drewN m) (fun q _ => n - (intOf q).toNat)
    case atStart => exact ⟨0, by omega, rfl, 0, rfl⟩
    case round =>
      obtain ⟨j, hj, rfl, m, rfl⟩ := hrel
      by_cases hjn : j < n
      · obtain ⟨ce, hel, hce⟩ := HF.out.els
        obtain ⟨cr, hrl, hcr⟩ := HF.out.rls
        have d1 := cell_at hel (hce _ hjn)
        have d2 := cell_at hrl (hcr _ hjn)
        obtain ⟨ub, rfl, d3⟩ := HF.out.uq _ hjn
        have r0 : wf.cell? ⟨B0 + 4 * j + 1, 0, none⟩ = some (.slice none 0 0) := cell_at (HF.out.R _ hjn) rfl
        have r1 : wf.cell? ⟨B0 + 4 * j + 1, 1, none⟩ = some (.slice (some ⟨B0 + 4 * j, 0, none⟩) 1 1) := cell_at (HF.out.R _ hjn) rfl
        have s0 : wf.cell? ⟨B0 + 4 * j, 0, none⟩ = some (.int .i64 j) := cell_at (HF.out.S _ hjn) rfl
        have hlk := HL.out j hjn
        have n1 := fun wx => neq_same wx (tp := 32) ⟨B0 + 4 * j + 3, 0, none⟩ Yba.underlying32 info35
        have hne := fun wx => run_neq_slice_nil_any (P := Yba.prog) wx 44 5 none 0 0 0 0 Yba.underlying44
        clear hel hce hrl hcr
        go_wp2_with fail
        go_quiet (fail)
        go_wp2_with fail
        go_roundw
        case rel => exact ⟨j + 1, by omega, by go_num, _, rfl⟩
        case measure => simp [intOf]; omega
      · obtain rfl : j = n := by omega
        go_wp2
        go_meet
        case rel => exact ⟨m, rfl⟩
  case rest =>
    obtain ⟨m, rfl⟩ := hcut
    rename_i hk
    refine hk _ _ ?_
    exact p8 w (wf.drewN m) sz ucap cb B0 el rl n h us ua HF.out.drewN (below_drewN HB.out m) _ _ _ _ _ _ _ _ _ _ _ _ _ _ _ _ _ _ _ _ _ _ _ _ _ _ _ _ _ _ _ _ _ _ _ _ _ _ _ _ _ _ _ _ _ _ _ _ _ _ _ _ _ _ _ _ _ _ _ _ _ _ _ _ _ _ _ _ _ _ _ _ _ _ _ _ _ _ _ _ _ _ _ _ _ _ _ _ _ _ _ _ _ _ _ _ _ _ _ _ _ _ _ _ _ _ _ _ _ _ _ _ _ _ _ _ _ _ _ _ _ _ _ _ _ _ _ _ _ _ _ _ _ _ _ _ _ _ _ _ _ _ _ _ _ _ _ _ _ _ _ _ _ _ _ _ _ _ _ _ _ _ _ _ _ _ _ _ _ _ _ _ _ _ _ _ _ _ _ _ _ _ _ _ _ _ _ _ _ _ _ _ _ _ _ _ _ _ _ _ _ _ _ _ _ _ _ _ _ _ _ _ _ _ _ _ _ _ _ _ _ _ _ _ _ _ _ _ _ _ _ _ _ _ _ _ _ _ _ _ _ _ _ _ _ _ _ _ _ _ _ _ _ _ _ _ _ _ _ _ _ _ _ _ _ _ _ _ _ _ _ _ _ _ _ _ _ _ _ _ _ _ _ _ _
end Go.Proofs.Ybulkdjlc.C
