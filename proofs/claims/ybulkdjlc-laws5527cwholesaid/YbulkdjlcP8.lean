import Derived.Test.YbulkdjlcGet
import Derived.WalkKit
import Derived.WalkSpells
import Derived.BigQuiet
import Derived.Deep.QuietTactic
import Derived.Deep.DeepCutAuto
import Derived.Deep.CutBlock
import Derived.Test.YbulkdjlcState
namespace Go.Proofs.Ybulkdjlc.C
open Go.RowKit Go.MuLone
set_option linter.unusedVariables false
set_option maxRecDepth 100000 in
set_option maxHeartbeats 4000000 in
theorem p8 (w wf : World) (sz : Int) (ucap cb B0 el rl n : Nat) (h : Int) (us : Nat → Int) (ua : Option Addr) (F : Fin wf cb B0 el rl n h us ua) (hbe : Below w.heap.size w wf)
    (z0 z1 z2 z4 z5 z6 z7 z8 z10 z11 z12 z13 z14 z19 z21 z22 z23 z24 z25 z26 z27 z28 z29 z30 z31 z32 z33 z34 z35 z36 z37 z38 z39 z40 z41 z42 z43 z44 z45 z46 z47 z48 z49 z50 z51 z52 z53 z54 z55 z56 z57 z58 z59 z60 z61 z62 z63 z64 z65 z66 z67 z68 z69 z70 z71 z72 z73 z74 z75 z76 z77 z78 z79 z80 z81 z82 z83 z84 z85 z86 z87 z88 z89 z90 z91 z92 z93 z94 z95 z96 z97 z98 z99 z100 z101 z102 z103 z104 z105 z106 z107 z108 z109 z110 z111 z112 z113 z114 z115 z116 z117 z118 z119 z120 z121 z122 z123 z124 z125 z126 z127 z128 z129 z130 z131 z132 z133 z134 z135 z136 z137 z138 z139 z140 z141 z142 z143 z144 z145 z146 z147 z148 z149 z150 z151 z152 z153 z154 z155 z156 z157 z158 z159 z160 z161 z162 z163 z164 z165 z166 z167 z168 z169 z170 z171 z172 z173 z174 z175 z176 z177 z178 z179 z180 z181 z182 z183 z184 z185 z186 z187 z188 z189 z190 z191 z192 z193 z194 z195 z196 z197 z198 z199 z200 z201 z202 z203 z204 z205 z206 z207 z208 z209 z210 z211 z212 z213 z214 z215 z216 z217 z218 z219 z220 z221 z222 z223 z224 z225 z226 z227 z228 z229 z230 z231 z232 z233 z234 z235 z236 z237 z238 z239 z240 z241 z242 z243 z244 z245 z246 z247 z248 z249 z250 z251 z252 z253 z254 z255 z256 z257 z258 z259 z260 z261 z262 z263 z264 z265 z266 z267 z268 z269 z270 z271 z272 z273 z274 z275 z276 z277 z278 z279 z280 z281 z282 z283 z284 z285 z286 z287 z288 z289 z290 z291 : Value) :
    Code.wp Yba.prog (fromReg 55 (Yba.f3.body.getD .skip)) (bodyPost Yba.prog Yba.f3 fun e w' => e = .returned (.bool true) ∧ Below w.heap.size w w') ⟨#[z0, z1, z2, .int .i64 sz, z4, z5, z6, z7, z8, .slice ua n ucap, z10, z11, z12, z13, z14, .int .i64 n, ptr cb, .slice (some ⟨el, 0, none⟩) n n, .slice (some ⟨rl, 0, none⟩) n n, z19, .int .i64 h, z21, z22, z23, z24, z25, z26, z27, z28, z29, z30, z31, z32, z33, z34, z35, z36, z37, z38, z39, z40, z41, z42, z43, z44, z45, z46, z47, z48, z49, z50, z51, z52, z53, z54, z55, z56, z57, z58, z59, z60, z61, z62, z63, z64, z65, z66, z67, z68, z69, z70, z71, z72, z73, z74, z75, z76, z77, z78, z79, z80, z81, z82, z83, z84, z85, z86, z87, z88, z89, z90, z91, z92, z93, z94, z95, z96, z97, z98, z99, z100, z101, z102, z103, z104, z105, z106, z107, z108, z109, z110, z111, z112, z113, z114, z115, z116, z117, z118, z119, z120, z121, z122, z123, z124, z125, z126, z127, z128, z129, z130, z131, z132, z133, z134, z135, z136, z137, z138, z139, z140, z141, z142, z143, z144, z145, z146, z147, z148, z149, z150, z151, z152, z153, z154, z155, z156, z157, z158, z159, z160, z161, z162, z163, z164, z165, z166, z167, z168, z169, z170, z171, z172, z173, z174, z175, z176, z177, z178, z179, z180, z181, z182, z183, z184, z185, z186, z187, z188, z189, z190, z191, z192, z193, z194, z195, z196, z197, z198, z199, z200, z201, z202, z203, z204, z205, z206, z207, z208, z209, z210, z211, z212, z213, z214, z215, z216, z217, z218, z219, z220, z221, z222, z223, z224, z225, z226, z227, z228, z229, z230, z231, z232, z233, z234, z235, z236, z237, z238, z239, z240, z241, z242, z243, z244, z245, z246, z247, z248, z249, z250, z251, z252, z253, z254, z255, z256, z257, z258, z259, z260, z261, z262, z263, z264, z265, z266, z267, z268, z269, z270, z271, z272, z273, z274, z275, z276, z277, z278, z279, z280, z281, z282, z283, z284, z285, z286, z287, z288, z289, z290, z291], []⟩ wf := by
  have HF := hide2 F
  have HB := hide2 hbe
  have hn := F.hn
  have hh := F.hh
  obtain ⟨cc, hC, h7, h3⟩ := F.cc
  have c7 := cell_at hC h7
  have HC := hide2 hC
  have H3 := hide2 h3
  clear F hbe hC h7 h3
  have hnn : 0 < n → ¬ (n : Int) = 0 := fun h => by omega
  conv => arg 2; whnf
  go_wp2_with (first | (go_at_call 8; refine (len_any cb _ _ c7).mono ?_; rintro e w' ⟨rfl, hw'⟩; obtain rfl := hw'.symm) | (go_at_call 9; refine (front_any cb n (B0 + 4 * ordH h 0 + 3) _ _ HC.out c7 H3.out).mono ?_; rintro e w' ⟨v0, rfl, HV0, hw'⟩; obtain rfl := hw'.symm))
  go_loopw [24, 25] (fun e q wr => ∃ j : Nat, j ≤ n ∧ q = .int .i64 j ∧ e = (if j < n then ptr (B0 + 4 * ordH h j + 3) else .pointer none) ∧ ∃ m, wr = wf.drewN m) (fun _ q _ => n - (intOf q).toNat)
  case atStart => exact ⟨0, by omega, rfl, HV0.out, 0, rfl⟩
  case round =>
    obtain ⟨j, hj, rfl, rfl, m, rfl⟩ := hrel
    by_cases hjn : j < n
    · rw [if_pos hjn]
      obtain ⟨pv, hE⟩ := HF.out.E j hjn
      obtain ⟨ce, hel, hce⟩ := HF.out.els
      obtain ⟨cr, hrl, hcr⟩ := HF.out.rls
      have hol : ordH h j < n := ordH_lt hjn hh.2
      have d1 := cell_at hel (hce _ hol)
      have d2 := cell_at hrl (hcr _ hol)
      obtain ⟨ub, rfl, d3⟩ := HF.out.uq _ hol
      have q0 : wf.cell? ⟨B0 + 4 * ordH h j + 2, 0, none⟩ = some (.int .i64 (us (ordH h j))) := cell_at (HF.out.Q _ hol) rfl
      have q1 : wf.cell? ⟨B0 + 4 * ordH h j + 2, 1, none⟩ = some (ptr (B0 + 4 * ordH h j + 1)) := cell_at (HF.out.Q _ hol) rfl
      have v3 : wf.cell? ⟨B0 + 4 * ordH h j + 3, 3, none⟩ = some (.iface 48 (ptr (B0 + 4 * ordH h j + 2))) := cell_at hE rfl
      have hta := assert_two
      have hN : Hid (∀ wx, (∃ m, wx = wf.drewN m) → Calls Yba.prog 10 #[ptr (B0 + 4 * ordH h j + 3)] wx fun e w' => ∃ v, e = .returned v ∧ Hid (v = if j + 1 < n then ptr (B0 + 4 * ordH h (j + 1) + 3) else .pointer none) ∧ w' = wx) := by
        rintro wx ⟨m, rfl⟩
        by_cases hj1 : j + 1 < n
        · obtain ⟨pv2, hE2⟩ := HF.out.E (j + 1) hj1
          have := HF.out.hcb
          rw [if_pos hj1] at hE ⊢
          exact (next_some _ _ cb _ _ _ 35 (wf.drewN m) hE rfl rfl (by omega) hE2 HC.out).mono (fun e w' h => ⟨_, h.1, rfl, h.2⟩)
        · rw [if_neg hj1] at hE ⊢
          exact (next_nil _ cb _ (wf.drewN m) hE rfl rfl).mono (fun e w' h => ⟨_, h.1, rfl, h.2⟩)
      obtain ⟨o, ho⟩ : ∃ o, o = ordH h j := ⟨_, rfl⟩
      rw [← ho] at d1 d2 d3 q0 q1 v3 hol hN ⊢
      have HO := hide2 ho
      have n1 := fun wx => neq_same wx (tp := 32) ⟨B0 + 4 * o + 3, 0, none⟩ Yba.underlying32 info35
      have n2 := fun wx => neq_same wx (tp := 42) ⟨B0 + 4 * o + 1, 0, none⟩ Yba.underlying42 info46
      clear hE hel hce hrl hcr ho
      by_cases hneg : h < 0
      · obtain rfl : o = j := by rw [HO.out]; unfold ordH; rw [if_pos hneg]
        go_wp2_with fail
        go_quiet (fail)
        go_wp2_with (go_at_call 10; refine (hN.out _ ⟨_, rfl⟩).mono ?_; rintro e w' ⟨v1, rfl, HV1, hw'⟩; obtain rfl := hw'.symm)
        go_roundw
        case rel => exact ⟨o + 1, by omega, by go_num, HV1.out, _, rfl⟩
        case measure => simp [intOf]; omega
      · obtain ⟨hN0, rfl⟩ : ∃ hN0 : Nat, h = (hN0 : Int) := ⟨h.toNat, by omega⟩
        have hpos : (0 : Int) ≤ (hN0 : Int) := by omega
        by_cases hj0 : j = 0
        · subst hj0
          obtain rfl : o = hN0 := by rw [HO.out]; unfold ordH; rw [if_neg hneg, if_pos rfl]; omega
          go_wp2_with fail
          go_quiet (fail)
          go_wp2_with (go_at_call 10; refine (hN.out _ ⟨_, rfl⟩).mono ?_; rintro e w' ⟨v1, rfl, HV1, hw'⟩; obtain rfl := hw'.symm)
          go_roundw
          case rel => exact ⟨0 + 1, by omega, by go_num, HV1.out, _, rfl⟩
          case measure => simp [intOf]; omega
        · obtain ⟨i, rfl⟩ : ∃ i, j = i + 1 := ⟨j - 1, by omega⟩
          have hz0 : ¬ ((i : Int) + 1 = 0) := by omega
          by_cases hle : i + 1 ≤ hN0
          · obtain rfl : o = i := by rw [HO.out]; unfold ordH; rw [if_neg hneg, if_neg (by omega), if_pos (by omega)]; omega
            have hle2 : (o : Int) + 1 ≤ (hN0 : Int) := by omega
            go_wp2_with fail
            go_quiet (fail)
            go_wp2_with (go_at_call 10; refine (hN.out _ ⟨_, rfl⟩).mono ?_; rintro e w' ⟨v1, rfl, HV1, hw'⟩; obtain rfl := hw'.symm)
            go_roundw
            case rel => exact ⟨o + 1 + 1, by omega, by go_num, HV1.out, _, rfl⟩
            case measure => simp [intOf]; omega
          · obtain rfl : o = i + 1 := by rw [HO.out]; unfold ordH; rw [if_neg hneg, if_neg (by omega), if_neg (by omega)]
            have hle2 : ¬ ((i : Int) + 1 ≤ (hN0 : Int)) := by omega
            go_wp2_with fail
            go_quiet (fail)
            go_wp2_with (go_at_call 10; refine (hN.out _ ⟨_, rfl⟩).mono ?_; rintro e w' ⟨v1, rfl, HV1, hw'⟩; obtain rfl := hw'.symm)
            go_roundw
            case rel => exact ⟨i + 1 + 1, by omega, by go_num, HV1.out, _, rfl⟩
            case measure => simp [intOf]; omega
    · obtain rfl : j = n := by omega
      rw [if_neg (by omega)]
      go_wp2
      go_ret
      exact ⟨rfl, below_drewN HB.out m⟩
end Go.Proofs.Ybulkdjlc.C
