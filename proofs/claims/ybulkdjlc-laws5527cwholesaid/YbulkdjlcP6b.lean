import Derived.Test.YbulkdjlcGet
import Derived.WalkKit
import Derived.WalkSpells
import Derived.BigQuiet
import Derived.Deep.QuietTactic
import Derived.Deep.DeepCutAuto
import Derived.Deep.CutBlock
import Derived.Test.YbulkdjlcGot
import Derived.Test.YbulkdjlcP7
namespace Go.Proofs.Ybulkdjlc.C
open Go.RowKit Go.MuLone
set_option linter.unusedVariables false
theorem wpList_len_B {ops : Array Oper} {Q : Exit → Act → World → Prop} {rest : List Oper} {o : Oper} {a : Act} {w : World} (hg : o.guard = none) (m : Operand) (hop : o.op = Op.call { callee := Callee.builtin Builtin.len, args := #[m], argTypes := #[24] })
    {M n : Nat} {us : Nat → Int} {vs : Nat → Value} (hm : a.eval m = .map (some M)) (hB : MapB w M us vs n)
    (hK : wpList Yba.prog ops Q rest (a.put o.dst (.int .i64 n)) w) : wpList Yba.prog ops Q (o :: rest) a w := by
  obtain ⟨D, hown, hsz, _⟩ := hB
  refine wpList_len_own _ hg m 24 hop 2 32 Yba.underlying24 _ M n D hm hown ?_
  rw [hsz]; exact hK
set_option maxRecDepth 100000 in
set_option maxHeartbeats 4000000 in
theorem p6b (w wf : World) (sz : Int) (ucap cb B0 el rl n M : Nat) (h : Int) (us : Nat → Int) (ua : Option Addr) (G : Got w wf cb M B0 el rl n sz 0 us ua h) (wfu : ∀ j, j < n → (Lit.int .i64 (us j)).wf = true)
    (z0 z1 z2 z4 z5 z6 z7 z8 z10 z11 z12 z13 z14 z19 z21 z22 z23 z24 z25 z26 z27 z28 z29 z30 z31 z32 z33 z34 z35 z36 z37 z38 z39 z40 z41 z42 z43 z44 z45 z46 z47 z48 z49 z50 z51 z52 z53 z54 z55 z56 z57 z58 z59 z60 z61 z62 z63 z64 z65 z66 z67 z68 z69 z70 z71 z72 z73 z74 z75 z76 z77 z78 z79 z80 z81 z82 z83 z84 z85 z86 z87 z88 z89 z90 z91 z92 z93 z94 z95 z96 z97 z98 z99 z100 z101 z102 z103 z104 z105 z106 z107 z108 z109 z110 z111 z112 z113 z114 z115 z116 z117 z118 z119 z120 z121 z122 z123 z124 z125 z126 z127 z128 z129 z130 z131 z132 z133 z134 z135 z136 z137 z138 z139 z140 z141 z142 z143 z144 z145 z146 z147 z148 z149 z150 z151 z152 z153 z154 z155 z156 z157 z158 z159 z160 z161 z162 z163 z164 z165 z166 z167 z168 z169 z170 z171 z172 z173 z174 z175 z176 z177 z178 z179 z180 z181 z182 z183 z184 z185 z186 z187 z188 z189 z190 z191 z192 z193 z194 z195 z196 z197 z198 z199 z200 z201 z202 z203 z204 z205 z206 z207 z208 z209 z210 z211 z212 z213 z214 z215 z216 z217 z218 z219 z220 z221 z222 z223 z224 z225 z226 z227 z228 z229 z230 z231 z232 z233 z234 z235 z236 z237 z238 z239 z240 z241 z242 z243 z244 z245 z246 z247 z248 z249 z250 z251 z252 z253 z254 z255 z256 z257 z258 z259 z260 z261 z262 z263 z264 z265 z266 z267 z268 z269 z270 z271 z272 z273 z274 z275 z276 z277 z278 z279 z280 z281 z282 z283 z284 z285 z286 z287 z288 z289 z290 z291 : Value) :
    Code.wp Yba.prog (fromReg 41 (Yba.f3.body.getD .skip)) (bodyPost Yba.prog Yba.f3 fun e w' => e = .returned (.bool true) ∧ Below w.heap.size w w') ⟨#[z0, z1, z2, .int .i64 sz, z4, z5, z6, z7, z8, .slice ua n ucap, z10, z11, z12, z13, z14, .int .i64 n, ptr cb, .slice (some ⟨el, 0, none⟩) n n, .slice (some ⟨rl, 0, none⟩) n n, z19, .int .i64 h, z21, z22, z23, z24, z25, z26, z27, z28, z29, z30, z31, z32, z33, z34, z35, z36, z37, z38, z39, z40, z41, z42, z43, z44, z45, z46, z47, z48, z49, z50, z51, z52, z53, z54, z55, z56, z57, z58, z59, z60, z61, z62, z63, z64, z65, z66, z67, z68, z69, z70, z71, z72, z73, z74, z75, z76, z77, z78, z79, z80, z81, z82, z83, z84, z85, z86, z87, z88, z89, z90, z91, z92, z93, z94, z95, z96, z97, z98, z99, z100, z101, z102, z103, z104, z105, z106, z107, z108, z109, z110, z111, z112, z113, z114, z115, z116, z117, z118, z119, z120, z121, z122, z123, z124, z125, z126, z127, z128, z129, z130, z131, z132, z133, z134, z135, z136, z137, z138, z139, z140, z141, z142, z143, z144, z145, z146, z147, z148, z149, z150, z151, z152, z153, z154, z155, z156, z157, z158, z159, z160, z161, z162, z163, z164, z165, z166, z167, z168, z169, z170, z171, z172, z173, z174, z175, z176, z177, z178, z179, z180, z181, z182, z183, z184, z185, z186, z187, z188, z189, z190, z191, z192, z193, z194, z195, z196, z197, z198, z199, z200, z201, z202, z203, z204, z205, z206, z207, z208, z209, z210, z211, z212, z213, z214, z215, z216, z217, z218, z219, z220, z221, z222, z223, z224, z225, z226, z227, z228, z229, z230, z231, z232, z233, z234, z235, z236, z237, z238, z239, z240, z241, z242, z243, z244, z245, z246, z247, z248, z249, z250, z251, z252, z253, z254, z255, z256, z257, z258, z259, z260, z261, z262, z263, z264, z265, z266, z267, z268, z269, z270, z271, z272, z273, z274, z275, z276, z277, z278, z279, z280, z281, z282, z283, z284, z285, z286, z287, z288, z289, z290, z291], []⟩ wf := by
  have hn := G.fin.hn
  have hh := G.fin.hh
  have HW := hide2 wfu
  obtain ⟨w1, hw1⟩ : ∃ w1, w1 = wf.setCell ⟨cb, 0, none⟩ (.int .i32 1) := ⟨_, rfl⟩
  obtain ⟨w2, hw2⟩ : ∃ w2, w2 = w1.setCell ⟨cb, 0, none⟩ (.int .i32 0) := ⟨_, rfl⟩
  have G1 := G.lock 1
  rw [← hw1] at G1
  have G2 := G1.lock 0
  rw [← hw2] at G2
  have HT : Hid (Calls Yba.prog 6 #[.pointer (some ⟨cb, 0, none⟩)] wf fun e w' => e = .returned (.bool true) ∧ w' = w1) := by
    obtain ⟨s1, p3, p4, li, va, hc⟩ := G.cc
    rw [hw1]; exact try_free _ wf (cell_at hc rfl) (frozen_of_row _ _ _ _ _ hc)
  have HU : Hid (Calls Yba.prog 7 #[.pointer (some ⟨cb, 0, none⟩)] w1 fun e w' => e = .returned (.tuple #[]) ∧ w' = w2) := by
    obtain ⟨s1, p3, p4, li, va, hc⟩ := G1.cc
    rw [hw2]; exact unlock_held Yba.muLib _ w1 (cell_at hc rfl) (frozen_of_row _ _ _ _ _ hc)
  have c2 : w2.cell? ⟨cb, 2, none⟩ = some (.int .i64 sz) := by
    obtain ⟨s1, p3, p4, li, va, hc⟩ := G2.cc
    exact cell_at hc rfl
  have c8 : w2.cell? ⟨cb, 8, none⟩ = some (.map (some M)) := by
    obtain ⟨s1, p3, p4, li, va, hc⟩ := G2.cc
    exact cell_at hc rfl
  have HG := hide2 G2
  clear G G1 G2 hw1 hw2 wfu
  conv => arg 2; whnf
  go_upto_if 168 with (first | (go_at_call 6; refine HT.out.mono ?_; rintro e w' ⟨rfl, hw'⟩; obtain rfl := hw'.symm) | (go_at_call 7; refine HU.out.mono ?_; rintro e w' ⟨rfl, hw'⟩; obtain rfl := hw'.symm) | (at_len; refine wpList_len_B rfl _ rfl rfl HG.out.mp ?_))
  go_cut [] from 29 (fun wx => wx = w2)
  case first =>
    go_wp2_with fail
    go_meet
    case rel => rfl
  case rest =>
    obtain rfl := hcut
    rename_i hk
    refine hk _ _ ?_
    exact p7 w _ sz ucap cb B0 el rl n M h us ua HG.out.fin HG.out.be c8 (fun j hj m => (HG.out.mp.keep (show (World.drewN _ m).heap[M]? = _ from rfl)).look hj (HW.out j hj)) _ _ _ _ _ _ _ _ _ _ _ _ _ _ _ _ _ _ _ _ _ _ _ _ _ _ _ _ _ _ _ _ _ _ _ _ _ _ _ _ _ _ _ _ _ _ _ _ _ _ _ _ _ _ _ _ _ _ _ _ _ _ _ _ _ _ _ _ _ _ _ _ _ _ _ _ _ _ _ _ _ _ _ _ _ _ _ _ _ _ _ _ _ _ _ _ _ _ _ _ _ _ _ _ _ _ _ _ _ _ _ _ _ _ _ _ _ _ _ _ _ _ _ _ _ _ _ _ _ _ _ _ _ _ _ _ _ _ _ _ _ _ _ _ _ _ _ _ _ _ _ _ _ _ _ _ _ _ _ _ _ _ _ _ _ _ _ _ _ _ _ _ _ _ _ _ _ _ _ _ _ _ _ _ _ _ _ _ _ _ _ _ _ _ _ _ _ _ _ _ _ _ _ _ _ _ _ _ _ _ _ _ _ _ _ _ _ _ _ _ _ _ _ _ _ _ _ _ _ _ _ _ _ _ _ _ _ _ _ _ _ _ _ _ _ _ _ _ _ _ _ _ _ _ _ _ _ _ _ _ _ _ _ _ _ _ _ _ _ _ _ _ _ _ _ _ _ _ _ _ _ _ _ _ _
end Go.Proofs.Ybulkdjlc.C
