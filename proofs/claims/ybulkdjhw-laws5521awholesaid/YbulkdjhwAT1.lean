import Derived.Test.YbulkdjhwARegion
import Derived.WalkKit
import Derived.WalkSpells
import Derived.BigQuiet
import Derived.Deep.QuietTactic
import Derived.Laws.CopyOwn
import Derived.Laws.ResultCell
import Derived.Deep.DeepCutAuto
import Derived.Maps.OwnSet
import Derived.Test.YbulkdjhwAT2
namespace Go.Proofs.Ybulkdjhw.A
open Go.RowKit
set_option linter.unusedVariables false
set_option maxRecDepth 100000 in
set_option maxHeartbeats 4000000 in
theorem t1F (ao : Option Addr) (lo co : Nat) (raw : Int) (useRaw : Bool) (pick : Nat) (ac ax : Option Addr) (lc cc lx cx : Nat) (A U E nb b : Nat) (c x : Tab) (vc vx vs1 ve : Nat → Value) (LO : List Int) (w : World) (wn : World) (hcok : c.ok) (hxok : x.ok) (hraw0 : -2147483648 ≤ raw) (hraw1 : raw ≤ 2147483647) (hpick : pick < 256)
    (hlo : lo ≤ 1048576) (hOut : OutRow w w.heap.size ao lo LO) (hco : ao = none → co = 0) (St : StA w wn A U E nb b c x vc vx vs1 ve)
    (c7 c8 c9 c10 c11 c12 c13 c14 c20 c21 c22 c23 c24 c25 c26 c27 c29 c30 c31 c32 c34 c35 c36 c37 c38 c39 c40 c41 c42 c43 c44 c45 c46 c47 c48 c49 c50 c51 c52 c53 c54 c55 c56 c57 c58 c59 c60 c61 c62 c63 c64 c65 c66 c67 c68 c69 c70 c71 c72 c73 c74 c75 c76 c77 c78 c79 c80 c81 c82 c83 c84 c85 c86 c87 c88 c89 c90 c91 c92 c93 c94 c95 c96 c97 c98 c99 c100 c101 c102 c103 c104 c105 c106 c107 c108 c109 c110 c111 c112 c113 c114 c115 c116 c117 c118 c119 c120 c121 c122 c123 c124 c125 c126 c127 c128 c129 c130 c131 c132 c133 c134 c135 c136 c137 c138 c139 c140 c141 c142 c143 c144 c145 c146 c147 c148 c149 c150 c151 c152 c153 c154 c155 c156 c157 c158 c159 c160 c161 c162 c163 c164 c165 c166 c167 c168 c169 c170 c171 c172 c173 c174 c175 c176 c177 c178 c179 c180 c181 c182 c183 c184 c185 c186 c187 c188 c189 c190 c191 c192 c193 c194 c195 c196 c197 c198 c199 c200 c201 c202 c203 c204 c205 c206 c207 c208 c209 c210 c211 c212 c213 c214 c215 c216 c217 c218 c219 c220 c221 c222 c223 c224 c225 c226 c227 c228 c229 c230 c231 c232 c233 c234 c235 c236 c237 c238 c239 c240 c241 c242 c243 c244 : Value) :
    Code.wp Yba.prog (fromReg 55 (Yba.f3.body.getD .skip)) (bodyPost Yba.prog Yba.f3 fun e w' => e = .returned (.bool true) ∧ Below w.heap.size w w') ⟨#[.slice ao lo co, .int .i32 raw, .bool useRaw, .int .u8 (pick : Int), .slice ac lc cc, .slice ax lx cx, .bool false, c7, c8, c9, c10, c11, c12, c13, c14, .pointer (some ⟨A, 0, none⟩), .pointer (some ⟨A + 1, 0, none⟩), .pointer (some ⟨A + 1 + 1, 0, none⟩), .pointer (some ⟨A + 1 + 1 + 1, 0, none⟩), .pointer (some ⟨A + 1 + 1 + 1 + 1, 0, none⟩), c20, c21, c22, c23, c24, c25, c26, c27, .pointer (some ⟨E, 0, none⟩), c29, c30, c31, c32, .pointer (some ⟨nb, 0, none⟩), c34, c35, c36, c37, c38, c39, c40, c41, c42, c43, c44, c45, c46, c47, c48, c49, c50, c51, c52, c53, c54, c55, c56, c57, c58, c59, c60, c61, c62, c63, c64, c65, c66, c67, c68, c69, c70, c71, c72, c73, c74, c75, c76, c77, c78, c79, c80, c81, c82, c83, c84, c85, c86, c87, c88, c89, c90, c91, c92, c93, c94, c95, c96, c97, c98, c99, c100, c101, c102, c103, c104, c105, c106, c107, c108, c109, c110, c111, c112, c113, c114, c115, c116, c117, c118, c119, c120, c121, c122, c123, c124, c125, c126, c127, c128, c129, c130, c131, c132, c133, c134, c135, c136, c137, c138, c139, c140, c141, c142, c143, c144, c145, c146, c147, c148, c149, c150, c151, c152, c153, c154, c155, c156, c157, c158, c159, c160, c161, c162, c163, c164, c165, c166, c167, c168, c169, c170, c171, c172, c173, c174, c175, c176, c177, c178, c179, c180, c181, c182, c183, c184, c185, c186, c187, c188, c189, c190, c191, c192, c193, c194, c195, c196, c197, c198, c199, c200, c201, c202, c203, c204, c205, c206, c207, c208, c209, c210, c211, c212, c213, c214, c215, c216, c217, c218, c219, c220, c221, c222, c223, c224, c225, c226, c227, c228, c229, c230, c231, c232, c233, c234, c235, c236, c237, c238, c239, c240, c241, c242, c243, c244], []⟩ wn := by
  have hnb := St.hnb
  have hU := St.hU
  have hE := St.hE
  have hA := St.base.lt
  have HOut := hide2 hOut
  have HCo := hide2 hco
  have HSt := hide2 St
  clear hOut hco St
  conv => arg 2; whnf
  go_upto_if 177 with fail
  go_cut [34] from 42 (fun s34 wx => ∃ b2 vs2, s34 = .map (some b2) ∧ Hid (MapIs wx wx.heap.size (some b2) x vs2) ∧ Hid (Below wn.heap.size wn wx))
  case first =>
    go_wp2_with (first | refine wpList_load_row rfl 26 _ rfl _ rfl 26 _ (0,0) _ HSt.out.base.xH Yba.underlying26 rfl (hasA_size x) ?_ | refine wpList_load_row rfl 28 _ rfl _ rfl 28 _ (0,0) _ HSt.out.base.xI Yba.underlying28 rfl (idxA_size vx) ?_ | refine wpList_load_row rfl 24 _ rfl _ rfl 24 _ (0,0) _ HSt.out.base.alp Yba.underlying24 rfl info24s ?_ | (go_at_call 9; refine (build_any x hxok vx wn (fun i l hl => (HSt.out.base.xR i l hl).mono hU)).mono ?_; rintro e w5 ⟨b2, vs2, rfl, hM, hB5⟩; have HM5 := hide2 hM; clear hM))
    go_meet
    case rel => exact ⟨b2, vs2, rfl, HM5.out, hB5⟩
  case rest =>
    obtain ⟨b2, vs2, rfl, HM, HBc⟩ := hcut
    rename_i hk
    refine hk _ _ ?_
    exact t2 ao lo co raw useRaw pick ac ax lc cc lx cx false A U E nb b c x vc vx vs1 ve LO w (some b2) vs2 wc hcok hxok hraw0 hraw1 hpick hlo HOut.out HCo.out (HSt.out.below HBc.out) HM.out (.inr ⟨b2, rfl, rfl⟩) _ _ _ _ _ _ _ _ _ _ _ _ _ _ _ _ _ _ _ _ _ _ _ _ _ _ _ _ _ _ _ _ _ _ _ _ _ _ _ _ _ _ _ _ _ _ _ _ _ _ _ _ _ _ _ _ _ _ _ _ _ _ _ _ _ _ _ _ _ _ _ _ _ _ _ _ _ _ _ _ _ _ _ _ _ _ _ _ _ _ _ _ _ _ _ _ _ _ _ _ _ _ _ _ _ _ _ _ _ _ _ _ _ _ _ _ _ _ _ _ _ _ _ _ _ _ _ _ _ _ _ _ _ _ _ _ _ _ _ _ _ _ _ _ _ _ _ _ _ _ _ _ _ _ _ _ _ _ _ _ _ _ _ _ _ _ _ _ _ _ _ _ _ _ _ _ _ _ _ _ _ _ _ _ _ _ _ _ _ _ _ _ _ _ _ _ _ _ _ _ _ _ _ _ _ _ _ _ _ _ _ _ _ _ _ _ _ _ _ _ _ _ _ _ _ _ _ _ _ _
set_option maxRecDepth 100000 in
set_option maxHeartbeats 4000000 in
theorem t1T (ao : Option Addr) (lo co : Nat) (raw : Int) (useRaw : Bool) (pick : Nat) (ac ax : Option Addr) (lc cc lx cx : Nat) (A U E nb b : Nat) (c x : Tab) (vc vx vs1 ve : Nat → Value) (LO : List Int) (w : World) (wn : World) (hcok : c.ok) (hxok : x.ok) (hraw0 : -2147483648 ≤ raw) (hraw1 : raw ≤ 2147483647) (hpick : pick < 256)
    (hlo : lo ≤ 1048576) (hOut : OutRow w w.heap.size ao lo LO) (hco : ao = none → co = 0) (St : StA w wn A U E nb b c x vc vx vs1 ve) (hx0 : x = tab0)
    (c7 c8 c9 c10 c11 c12 c13 c14 c20 c21 c22 c23 c24 c25 c26 c27 c29 c30 c31 c32 c34 c35 c36 c37 c38 c39 c40 c41 c42 c43 c44 c45 c46 c47 c48 c49 c50 c51 c52 c53 c54 c55 c56 c57 c58 c59 c60 c61 c62 c63 c64 c65 c66 c67 c68 c69 c70 c71 c72 c73 c74 c75 c76 c77 c78 c79 c80 c81 c82 c83 c84 c85 c86 c87 c88 c89 c90 c91 c92 c93 c94 c95 c96 c97 c98 c99 c100 c101 c102 c103 c104 c105 c106 c107 c108 c109 c110 c111 c112 c113 c114 c115 c116 c117 c118 c119 c120 c121 c122 c123 c124 c125 c126 c127 c128 c129 c130 c131 c132 c133 c134 c135 c136 c137 c138 c139 c140 c141 c142 c143 c144 c145 c146 c147 c148 c149 c150 c151 c152 c153 c154 c155 c156 c157 c158 c159 c160 c161 c162 c163 c164 c165 c166 c167 c168 c169 c170 c171 c172 c173 c174 c175 c176 c177 c178 c179 c180 c181 c182 c183 c184 c185 c186 c187 c188 c189 c190 c191 c192 c193 c194 c195 c196 c197 c198 c199 c200 c201 c202 c203 c204 c205 c206 c207 c208 c209 c210 c211 c212 c213 c214 c215 c216 c217 c218 c219 c220 c221 c222 c223 c224 c225 c226 c227 c228 c229 c230 c231 c232 c233 c234 c235 c236 c237 c238 c239 c240 c241 c242 c243 c244 : Value) :
    Code.wp Yba.prog (fromReg 55 (Yba.f3.body.getD .skip)) (bodyPost Yba.prog Yba.f3 fun e w' => e = .returned (.bool true) ∧ Below w.heap.size w w') ⟨#[.slice ao lo co, .int .i32 raw, .bool useRaw, .int .u8 (pick : Int), .slice ac lc cc, .slice ax lx cx, .bool true, c7, c8, c9, c10, c11, c12, c13, c14, .pointer (some ⟨A, 0, none⟩), .pointer (some ⟨A + 1, 0, none⟩), .pointer (some ⟨A + 1 + 1, 0, none⟩), .pointer (some ⟨A + 1 + 1 + 1, 0, none⟩), .pointer (some ⟨A + 1 + 1 + 1 + 1, 0, none⟩), c20, c21, c22, c23, c24, c25, c26, c27, .pointer (some ⟨E, 0, none⟩), c29, c30, c31, c32, .pointer (some ⟨nb, 0, none⟩), c34, c35, c36, c37, c38, c39, c40, c41, c42, c43, c44, c45, c46, c47, c48, c49, c50, c51, c52, c53, c54, c55, c56, c57, c58, c59, c60, c61, c62, c63, c64, c65, c66, c67, c68, c69, c70, c71, c72, c73, c74, c75, c76, c77, c78, c79, c80, c81, c82, c83, c84, c85, c86, c87, c88, c89, c90, c91, c92, c93, c94, c95, c96, c97, c98, c99, c100, c101, c102, c103, c104, c105, c106, c107, c108, c109, c110, c111, c112, c113, c114, c115, c116, c117, c118, c119, c120, c121, c122, c123, c124, c125, c126, c127, c128, c129, c130, c131, c132, c133, c134, c135, c136, c137, c138, c139, c140, c141, c142, c143, c144, c145, c146, c147, c148, c149, c150, c151, c152, c153, c154, c155, c156, c157, c158, c159, c160, c161, c162, c163, c164, c165, c166, c167, c168, c169, c170, c171, c172, c173, c174, c175, c176, c177, c178, c179, c180, c181, c182, c183, c184, c185, c186, c187, c188, c189, c190, c191, c192, c193, c194, c195, c196, c197, c198, c199, c200, c201, c202, c203, c204, c205, c206, c207, c208, c209, c210, c211, c212, c213, c214, c215, c216, c217, c218, c219, c220, c221, c222, c223, c224, c225, c226, c227, c228, c229, c230, c231, c232, c233, c234, c235, c236, c237, c238, c239, c240, c241, c242, c243, c244], []⟩ wn := by
  have hnb := St.hnb
  have hU := St.hU
  have hE := St.hE
  have hA := St.base.lt
  have HOut := hide2 hOut
  have HCo := hide2 hco
  have HSt := hide2 St
  have HX0 := hide2 hx0
  clear hOut hco St hx0
  conv => arg 2; whnf
  go_upto_if 177 with fail
  go_cut [34] from 42 (fun s34 wx => s34 = .map none ∧ wx = wn)
  case first =>
    go_wp2
    go_meet
    case rel => exact ⟨rfl, rfl⟩
  case rest =>
    obtain ⟨rfl, rfl⟩ := hcut
    rename_i hk
    refine hk _ _ ?_
    exact t2 ao lo co raw useRaw pick ac ax lc cc lx cx true A U E nb b c x vc vx vs1 ve LO w none nilV wc hcok hxok hraw0 hraw1 hpick hlo HOut.out HCo.out HSt.out ⟨fun _ i => (by rw [HX0.out]; rfl), fun b h => (by cases h), fun i l hl => (by rw [HX0.out] at hl; cases hl)⟩ (.inl rfl) _ _ _ _ _ _ _ _ _ _ _ _ _ _ _ _ _ _ _ _ _ _ _ _ _ _ _ _ _ _ _ _ _ _ _ _ _ _ _ _ _ _ _ _ _ _ _ _ _ _ _ _ _ _ _ _ _ _ _ _ _ _ _ _ _ _ _ _ _ _ _ _ _ _ _ _ _ _ _ _ _ _ _ _ _ _ _ _ _ _ _ _ _ _ _ _ _ _ _ _ _ _ _ _ _ _ _ _ _ _ _ _ _ _ _ _ _ _ _ _ _ _ _ _ _ _ _ _ _ _ _ _ _ _ _ _ _ _ _ _ _ _ _ _ _ _ _ _ _ _ _ _ _ _ _ _ _ _ _ _ _ _ _ _ _ _ _ _ _ _ _ _ _ _ _ _ _ _ _ _ _ _ _ _ _ _ _ _ _ _ _ _ _ _ _ _ _ _ _ _ _ _ _ _ _ _ _ _ _ _ _ _ _ _ _ _ _ _ _ _ _ _ _ _ _ _ _ _ _ _
end Go.Proofs.Ybulkdjhw.A
