import Derived.Test.YbulkdjhwARegion
import Derived.WalkKit
import Derived.WalkSpells
import Derived.BigQuiet
import Derived.Deep.QuietTactic
import Derived.Laws.CopyOwn
import Derived.Laws.ResultCell
import Derived.Deep.DeepCutAuto
import Derived.Maps.OwnSet

namespace Go.Proofs.Ybulkdjhw.A
open Go.RowKit
set_option linter.unusedVariables false
set_option maxRecDepth 100000 in
set_option maxHeartbeats 4000000 in
theorem t3 (ao : Option Addr) (lo co : Nat) (raw : Int) (useRaw : Bool) (pick : Nat) (ac ax : Option Addr) (lc cc lx cx : Nat) (nl : Bool) (A U E nb b : Nat) (c x : Tab) (vc vx vs1 ve : Nat → Value) (LO : List Int) (w : World) (mx : Option Nat) (vs2 : Nat → Value) (r : Int) (gx cx2 : Nat) (Lx : List Int) (wq wx : World) (hcok : c.ok) (hxok : x.ok)
    (hlo : lo ≤ 1048576) (hOut : OutRow w w.heap.size ao lo LO) (hco : ao = none → co = 0) (St : StA w wq A U E nb b c x vc vx vs1 ve) (hMx : MapIs wq wq.heap.size mx x vs2) (hend : nl = true ∨ ∃ b2, nl = false ∧ mx = some b2)
    (hgx : gx < wx.heap.size) (hcx : ∀ j, j < Lx.length → wx.cell? ⟨gx, j, none⟩ = some (.int .i32 (Lx.getD j 0))) (hLx : Lx.length ≤ 65536) (hD : DecAt wq nb mx r Lx) (hBx : Below wq.heap.size wq wx)
    (c7 c8 c9 c10 c11 c12 c13 c14 c20 c21 c22 c23 c24 c25 c26 c27 c29 c30 c31 c32 c37 c38 c39 c40 c41 c42 c43 c44 c45 c46 c47 c48 c49 c50 c51 c52 c53 c54 c55 c56 c57 c58 c59 c60 c61 c62 c63 c64 c65 c66 c67 c68 c69 c70 c71 c72 c73 c74 c75 c76 c77 c78 c79 c80 c81 c82 c83 c84 c85 c86 c87 c88 c89 c90 c91 c92 c93 c94 c95 c96 c97 c98 c99 c100 c101 c102 c103 c104 c105 c106 c107 c108 c109 c110 c111 c112 c113 c114 c115 c116 c117 c118 c119 c120 c121 c122 c123 c124 c125 c126 c127 c128 c129 c130 c131 c132 c133 c134 c135 c136 c137 c138 c139 c140 c141 c142 c143 c144 c145 c146 c147 c148 c149 c150 c151 c152 c153 c154 c155 c156 c157 c158 c159 c160 c161 c162 c163 c164 c165 c166 c167 c168 c169 c170 c171 c172 c173 c174 c175 c176 c177 c178 c179 c180 c181 c182 c183 c184 c185 c186 c187 c188 c189 c190 c191 c192 c193 c194 c195 c196 c197 c198 c199 c200 c201 c202 c203 c204 c205 c206 c207 c208 c209 c210 c211 c212 c213 c214 c215 c216 c217 c218 c219 c220 c221 c222 c223 c224 c225 c226 c227 c228 c229 c230 c231 c232 c233 c234 c235 c236 c237 c238 c239 c240 c241 c242 c243 c244 : Value) :
    Code.wp Yba.prog (fromReg 73 (Yba.f3.body.getD .skip)) (bodyPost Yba.prog Yba.f3 fun e w' => e = .returned (.bool true) ∧ Below w.heap.size w w') ⟨#[.slice ao lo co, .int .i32 raw, .bool useRaw, .int .u8 (pick : Int), .slice ac lc cc, .slice ax lx cx, .bool nl, c7, c8, c9, c10, c11, c12, c13, c14, .pointer (some ⟨A, 0, none⟩), .pointer (some ⟨A + 1, 0, none⟩), .pointer (some ⟨A + 1 + 1, 0, none⟩), .pointer (some ⟨A + 1 + 1 + 1, 0, none⟩), .pointer (some ⟨A + 1 + 1 + 1 + 1, 0, none⟩), c20, c21, c22, c23, c24, c25, c26, c27, .pointer (some ⟨E, 0, none⟩), c29, c30, c31, c32, .pointer (some ⟨nb, 0, none⟩), .map mx, .int .i32 r, .slice (some ⟨gx, 0, none⟩) Lx.length cx2, c37, c38, c39, c40, c41, c42, c43, c44, c45, c46, c47, c48, c49, c50, c51, c52, c53, c54, c55, c56, c57, c58, c59, c60, c61, c62, c63, c64, c65, c66, c67, c68, c69, c70, c71, c72, c73, c74, c75, c76, c77, c78, c79, c80, c81, c82, c83, c84, c85, c86, c87, c88, c89, c90, c91, c92, c93, c94, c95, c96, c97, c98, c99, c100, c101, c102, c103, c104, c105, c106, c107, c108, c109, c110, c111, c112, c113, c114, c115, c116, c117, c118, c119, c120, c121, c122, c123, c124, c125, c126, c127, c128, c129, c130, c131, c132, c133, c134, c135, c136, c137, c138, c139, c140, c141, c142, c143, c144, c145, c146, c147, c148, c149, c150, c151, c152, c153, c154, c155, c156, c157, c158, c159, c160, c161, c162, c163, c164, c165, c166, c167, c168, c169, c170, c171, c172, c173, c174, c175, c176, c177, c178, c179, c180, c181, c182, c183, c184, c185, c186, c187, c188, c189, c190, c191, c192, c193, c194, c195, c196, c197, c198, c199, c200, c201, c202, c203, c204, c205, c206, c207, c208, c209, c210, c211, c212, c213, c214, c215, c216, c217, c218, c219, c220, c221, c222, c223, c224, c225, c226, c227, c228, c229, c230, c231, c232, c233, c234, c235, c236, c237, c238, c239, c240, c241, c242, c243, c244], []⟩ wx := by
  have hnb := St.hnb
  have hU := St.hU
  have hE := St.hE
  have hA := St.base.lt
  have hxq := hBx.size
  have HOut := hide2 hOut
  have HCo := hide2 hco
  have HSt := hide2 St
  have HMx0 := hide2 hMx
  have HEnd := hide2 hend
  have HCX := hide2 hcx
  have HD := hide2 hD
  have HBx := hide2 hBx
  have hLO : LO.length ≤ 1048576 := by have := hOut.1; omega
  have HBwx : Hid (Below w.heap.size w wx) := St.be.trans (hBx.mono St.be.size)
  have hl : (Lx.map (Value.int .i32)).length = Lx.length * 1 := by simp
  obtain ⟨i0, hi, hz0, hz1, hz2⟩ := info_parts info21
  clear hOut hco St hMx hend hcx hD hBx
  conv => arg 2; whnf
  go_upto_if 225 with (first | (go_at_call 10; refine (clone_any _ _ _ w.heap.size LO wx hlo (HOut.out.below HBwx.out) HCo.out).mono ?_; rintro e w6 ⟨v6, rfl, hR6, hB6⟩; have HR6 := hide2 hR6; clear hR6) | (go_at_call 11; refine (HD.out v6 LO wx.heap.size w6 (HBx.out.trans (hB6.mono hxq)) hxq hB6.size HR6.out (by omega)).mono ?_; rintro e w7 ⟨v7, rfl, hR7, hB7⟩; have HR7 := hide2 hR7; have HB7 : Hid (Below wx.heap.size wx w7) := hB6.trans hB7; have hs7 := HB7.out.size; clear hR7 hB7) | (go_at_call 10; refine (clone_any _ _ _ w.heap.size LO w7 hlo (HOut.out.below (HBwx.out.trans (HB7.out.mono HBwx.out.size))) HCo.out).mono ?_; rintro e w8 ⟨v8, rfl, hR8, hB8⟩; have HR8 := hide2 hR8; have HB8 := hide2 hB8; have hs8 := hB8.size; have HNw := hide2 (new_cells (HB7.out.trans (hB8.mono hs7)) hgx HCX.out); clear hR8 hB8) | (at_builtin; refine wpList_append_own _ rfl _ _ 22 rfl w7.heap.size 21 i0 (.int .i32 0) 1 4 Yba.underlying22 hi hz0 hz1 hz2 rfl (by decide) _ _ _ rfl HR8.out ⟨gx, 0, none⟩ Lx.length cx2 _ rfl hl HNw.out (ints_oneCell _ _) (by unfold maxLen; omega) (by omega) hs8 ?_; intro v9 w9 hown9 hgrow9 hnil9; have HR9 := hide2 (rowR_snoc (M := Lx) rfl hown9); have HB9 := hide2 ((HB8.out.grown hgrow9 hs8 (fun q hq => own_lt HR8.out q hq) : Below w7.heap.size w7 w9)); clear hown9 hgrow9 hnil9) | (go_at_call 12; refine (equal_rows v7 v9 (LO ++ Lx) wx.heap.size w7.heap.size w9 (HR7.out.keep HB9.out) HR9.out (by rw [List.length_append]; omega)).mono ?_; rintro e w10 ⟨rfl, n10, rfl⟩))
  have HBt : Hid (Below wx.heap.size wx w9) := HB7.out.trans (HB9.out.mono hs7)
  obtain ⟨wt, hwt⟩ : ∃ wt, wt = w9.drewN n10 := ⟨_, rfl⟩
  have HBtt : Hid (Below wx.heap.size wx wt) := by rw [hwt]; exact below_drewN HBt.out n10
  rw [← hwt]
  clear hwt HBt
  have hst := HBtt.out.size
  have HBqt : Hid (Below wq.heap.size wq wt) := HBx.out.trans (HBtt.out.mono hxq)
  have HSt2 := hide2 (HSt.out.below HBqt.out)
  have HMx : Hid (MapIs wt wt.heap.size mx x vs2) := (HMx0.out.below HBqt.out).mono (by omega)
  have hUt := HSt2.out.hU
  go_upto_region 78 with fail
  go_cut [234] from 42 (fun s wx => s = .bool false ∧ Hid (Below wt.heap.size wt wx))
  case first =>
    have hUt := HSt2.out.hU
    with_reducible apply region_same hcok (vc := vc) (vs1 := vs1) (A := A) (nb := nb) (b := b)
    case hl => kernel_rfl
    case g0 => rfl
    case g1 => rfl
    case g2 => rfl
    case g3 => rfl
    case g4 => rfl
    case g5 => rfl
    case g6 => rfl
    case g7 => rfl
    case g8 => rfl
    case d0 => rfl
    case d1 => rfl
    case d2 => rfl
    case d3 => rfl
    case d4 => rfl
    case d5 => rfl
    case d6 => rfl
    case d7 => rfl
    case d8 => rfl
    case e0 => rfl
    case e1 => rfl
    case e2 => rfl
    case e3 => rfl
    case e4 => rfl
    case e5 => rfl
    case e6 => rfl
    case e7 => rfl
    case e8 => rfl
    case hsz => rfl
    case h33 => rfl
    case h16 => rfl
    case h18 => rfl
    case h15 => rfl
    case hH => exact HSt2.out.base.cH
    case hI => exact HSt2.out.base.cI
    case hA => exact HSt2.out.base.alp
    case hN => exact HSt2.out.nm
    case hnb => exact HSt2.out.hnb
    case hM => exact HSt2.out.mc
    case hR => exact fun i l hl => (HSt2.out.base.cR i l hl).mono hUt
    case hQ =>
      intro w' h
      go_wp2_with fail
      simp only [Act.put, List.setIfInBounds_toArray, List.set_cons_succ, List.set_cons_zero]
      go_meet
      case rel => exact ⟨rfl, h⟩
  case rest =>
    obtain ⟨rfl, HBu⟩ := hcut
    obtain ⟨wu, rfl⟩ : ∃ wu, wu = wc := ⟨_, rfl⟩
    have hsu := HBu.out.size
    have hUu : U ≤ wu.heap.size := by omega
    have HSt3 := hide2 (HSt2.out.below HBu.out)
    have HL26 := hide2 (run_loadVar_row wu _ 26 26 _ (0, 0) _ HSt3.out.base.xH Yba.underlying26 rfl (hasA_size x))
    have HL28 := hide2 (run_loadVar_row wu _ 28 28 _ (0, 0) _ HSt3.out.base.xI Yba.underlying28 rfl (idxA_size vx))
    have HL24 := hide2 (run_loadVar_row wu _ 24 24 _ (0, 0) _ HSt3.out.base.alp Yba.underlying24 rfl info24s)
    rcases HEnd.out with hnl | ⟨b2, hnl, hmx⟩
    · subst hnl
      go_wp2
      go_ret
      exact ⟨rfl, HSt3.out.be⟩
    · subst hnl
      subst hmx
      have HMxu : Hid (MapIs wu wt.heap.size (some b2) x vs2) := HMx.out.below HBu.out
      go_wp2_with (first | refine wpList_row_want (by rfl) 26 _ (by rfl) (A + 1 + 1) (by rfl) (hasA x) HL26.out ?_ | refine wpList_row_want (by rfl) 28 _ (by rfl) (A + 1 + 1 + 1 + 1) (by rfl) (idxA vx) HL28.out ?_ | refine wpList_row_want (by rfl) 24 _ (by rfl) A (by rfl) alphaV HL24.out ?_ | (go_at_call 13; refine (same_any x hxok vx vs2 wt.heap.size b2 wu hsu HMxu.out (fun i l hl => (HSt3.out.base.xR i l hl).mono hUu)).mono ?_; rintro e w13 ⟨rfl, hB13⟩))
      go_ret
      exact ⟨rfl, HSt3.out.be.trans (hB13.mono HSt3.out.be.size)⟩
end Go.Proofs.Ybulkdjhw.A
