import Derived.Test.YbulkdjhwARegion
import Derived.WalkKit
import Derived.WalkSpells
import Derived.BigQuiet
import Derived.Deep.QuietTactic
import Derived.Laws.CopyOwn
import Derived.Laws.ResultCell
import Derived.Deep.DeepCutAuto
import Derived.Maps.OwnSet
import Derived.Test.YbulkdjhwAT3
namespace Go.Proofs.Ybulkdjhw.A
open Go.RowKit
set_option linter.unusedVariables false
set_option maxRecDepth 100000 in
set_option maxHeartbeats 4000000 in
theorem t2 (ao : Option Addr) (lo co : Nat) (raw : Int) (useRaw : Bool) (pick : Nat) (ac ax : Option Addr) (lc cc lx cx : Nat) (nl : Bool) (A U E nb b : Nat) (c x : Tab) (vc vx vs1 ve : Nat → Value) (LO : List Int) (w : World) (mx : Option Nat) (vs2 : Nat → Value) (wq : World) (hcok : c.ok) (hxok : x.ok) (hraw0 : -2147483648 ≤ raw) (hraw1 : raw ≤ 2147483647) (hpick : pick < 256)
    (hlo : lo ≤ 1048576) (hOut : OutRow w w.heap.size ao lo LO) (hco : ao = none → co = 0) (St : StA w wq A U E nb b c x vc vx vs1 ve) (hMx : MapIs wq wq.heap.size mx x vs2) (hend : nl = true ∨ ∃ b2, nl = false ∧ mx = some b2)
    (c7 c8 c9 c10 c11 c12 c13 c14 c20 c21 c22 c23 c24 c25 c26 c27 c29 c30 c31 c32 c35 c36 c37 c38 c39 c40 c41 c42 c43 c44 c45 c46 c47 c48 c49 c50 c51 c52 c53 c54 c55 c56 c57 c58 c59 c60 c61 c62 c63 c64 c65 c66 c67 c68 c69 c70 c71 c72 c73 c74 c75 c76 c77 c78 c79 c80 c81 c82 c83 c84 c85 c86 c87 c88 c89 c90 c91 c92 c93 c94 c95 c96 c97 c98 c99 c100 c101 c102 c103 c104 c105 c106 c107 c108 c109 c110 c111 c112 c113 c114 c115 c116 c117 c118 c119 c120 c121 c122 c123 c124 c125 c126 c127 c128 c129 c130 c131 c132 c133 c134 c135 c136 c137 c138 c139 c140 c141 c142 c143 c144 c145 c146 c147 c148 c149 c150 c151 c152 c153 c154 c155 c156 c157 c158 c159 c160 c161 c162 c163 c164 c165 c166 c167 c168 c169 c170 c171 c172 c173 c174 c175 c176 c177 c178 c179 c180 c181 c182 c183 c184 c185 c186 c187 c188 c189 c190 c191 c192 c193 c194 c195 c196 c197 c198 c199 c200 c201 c202 c203 c204 c205 c206 c207 c208 c209 c210 c211 c212 c213 c214 c215 c216 c217 c218 c219 c220 c221 c222 c223 c224 c225 c226 c227 c228 c229 c230 c231 c232 c233 c234 c235 c236 c237 c238 c239 c240 c241 c242 c243 c244 : Value) :
    Code.wp Yba.prog (fromReg 58 (Yba.f3.body.getD .skip)) (bodyPost Yba.prog Yba.f3 fun e w' => e = .returned (.bool true) ∧ Below w.heap.size w w') ⟨#[.slice ao lo co, .int .i32 raw, .bool useRaw, .int .u8 (pick : Int), .slice ac lc cc, .slice ax lx cx, .bool nl, c7, c8, c9, c10, c11, c12, c13, c14, .pointer (some ⟨A, 0, none⟩), .pointer (some ⟨A + 1, 0, none⟩), .pointer (some ⟨A + 1 + 1, 0, none⟩), .pointer (some ⟨A + 1 + 1 + 1, 0, none⟩), .pointer (some ⟨A + 1 + 1 + 1 + 1, 0, none⟩), c20, c21, c22, c23, c24, c25, c26, c27, .pointer (some ⟨E, 0, none⟩), c29, c30, c31, c32, .pointer (some ⟨nb, 0, none⟩), .map mx, c35, c36, c37, c38, c39, c40, c41, c42, c43, c44, c45, c46, c47, c48, c49, c50, c51, c52, c53, c54, c55, c56, c57, c58, c59, c60, c61, c62, c63, c64, c65, c66, c67, c68, c69, c70, c71, c72, c73, c74, c75, c76, c77, c78, c79, c80, c81, c82, c83, c84, c85, c86, c87, c88, c89, c90, c91, c92, c93, c94, c95, c96, c97, c98, c99, c100, c101, c102, c103, c104, c105, c106, c107, c108, c109, c110, c111, c112, c113, c114, c115, c116, c117, c118, c119, c120, c121, c122, c123, c124, c125, c126, c127, c128, c129, c130, c131, c132, c133, c134, c135, c136, c137, c138, c139, c140, c141, c142, c143, c144, c145, c146, c147, c148, c149, c150, c151, c152, c153, c154, c155, c156, c157, c158, c159, c160, c161, c162, c163, c164, c165, c166, c167, c168, c169, c170, c171, c172, c173, c174, c175, c176, c177, c178, c179, c180, c181, c182, c183, c184, c185, c186, c187, c188, c189, c190, c191, c192, c193, c194, c195, c196, c197, c198, c199, c200, c201, c202, c203, c204, c205, c206, c207, c208, c209, c210, c211, c212, c213, c214, c215, c216, c217, c218, c219, c220, c221, c222, c223, c224, c225, c226, c227, c228, c229, c230, c231, c232, c233, c234, c235, c236, c237, c238, c239, c240, c241, c242, c243, c244], []⟩ wq := by
  have hnb := St.hnb
  have hU := St.hU
  have hE := St.hE
  have hA := St.base.lt
  have HOut := hide2 hOut
  have HCo := hide2 hco
  have HSt := hide2 St
  have HMx0 := hide2 hMx
  have HEnd := hide2 hend
  have HN : Hid (Norm wq nb (some b) mx c x vs1 vs2) := ⟨hnb, St.nm, St.mc, hMx⟩
  clear hOut hco St hMx hend
  conv => arg 2; whnf
  go_upto_if 184 with fail
  go_cut [35] from 42 (fun s35 wx => ∃ r : Int, s35 = .int .i32 r ∧ -2147483648 ≤ r ∧ r ≤ 2147483647 ∧ wx = wq)
  case first =>
    cases useRaw with
    | true =>
      go_wp2
      go_meet
      case rel => exact ⟨raw, rfl, hraw0, hraw1, rfl⟩
    | false =>
      have hpa := cell_at HSt.out.base.alp (alphaV_at (pick % 12) (by omega))
      have hpb := al_bd (pick % 12) (by omega)
      go_wp2
      go_meet
      case rel => exact ⟨al (pick % 12), rfl, by omega, by omega, rfl⟩
  case rest =>
    obtain ⟨r, rfl, hr0, hr1, rfl⟩ := hcut
    obtain ⟨wq, rfl⟩ : ∃ wq, wq = wc := ⟨_, rfl⟩
    go_upto_if 191 with (go_at_call 7; refine (hangul_any _ _ hr0 hr1).mono ?_; rintro e w' ⟨rfl, hw'⟩; obtain rfl := hw'.symm)
    go_cut [36, 37, 38] from 42 (fun s36 s37 s38 wx => ∃ Lx, RunRow wx 0 wx.heap.size s36 Lx ∧ Lx.length ≤ 65536 ∧ Hid (DecAt wq nb mx r Lx) ∧ Hid (Below wq.heap.size wq wx))
    case first =>
      cases hH : isH r with
      | true =>
        have hj3 : (jamoL r).length ≤ 65536 := by unfold jamoL; split <;> simp
        go_wp2_with (go_at_call 8; refine (jamo_any _ _ hH).mono ?_; rintro e w6 ⟨g, cp, rfl, hrow, hB6⟩; have HRR := hide2 (runRow_of (lo := 0) hrow (fun h => (by cases h)) (by omega)); clear hrow)
        go_meet
        case rel => exact ⟨jamoL r, HRR.out, hj3, decAt_hangul hH, hB6⟩
      | false =>
        go_wp2
        go_loop [37, 38] (fun q i => ∃ k : Nat, k ≤ 12 ∧ q = .int .i64 (-1) ∧ i = .int .i64 k ∧ Hid (∀ j, j < k → al j ≠ r)) (fun _ i => 12 - (intOf i).toNat)
        case atStart => exact ⟨0, by omega, rfl, rfl, fun j hj => (by omega)⟩
        case round =>
          obtain ⟨k, hk, rfl, rfl, hne⟩ := hrel
          by_cases hlt : k < 12
          · have d0 : wq.cell? ⟨A, k, none⟩ = some (.int .i32 (al k)) := cell_at HSt.out.base.alp (alphaV_at k hlt)
            by_cases hrk : al k = r
            · obtain ⟨g, cap, hv, hg1, hg2, hcg⟩ := HSt.out.rows k hlt
              have g2 : wq.cell? ⟨E, k, none⟩ = some (.slice (some ⟨g, 0, none⟩) (ex c x k).length cap) := by rw [← hv]; exact cell_at HSt.out.ep (idxA_at _ k hlt)
              have HRR : Hid (RunRow wq 0 wq.heap.size (.slice (some ⟨g, 0, none⟩) (ex c x k).length cap) (ex c x k)) := ⟨g, cap, rfl, by omega, by omega, hcg⟩
              have HLE := hide2 (HSt.out.le k hlt)
              have HDA : Hid (DecAt wq nb mx r (ex c x k)) := (by rw [← hrk]; exact decAt_alpha HN.out hcok hxok hlt (HSt.out.le k hlt))
              clear hv hcg
              go_wp2
              go_meet
              case rel => exact ⟨ex c x k, HRR.out, HLE.out, HDA.out, Below.refl _ _⟩
            · go_wp2
              go_round
              case rel =>
                refine ⟨k + 1, by omega, rfl, by go_num, fun j hj => ?_⟩
                by_cases e : j = k
                · subst e; exact hrk
                · exact hne.out j (by omega)
              case measure => simp [intOf]; omega
          · obtain rfl : k = 12 := by omega
            have HRR : Hid (RunRow (wq.alloc (.cells #[.int .i32 r] 21)) 0 (wq.alloc (.cells #[.int .i32 r] 21)).heap.size (.slice (some ⟨wq.heap.size, 0, none⟩) 1 1) [r]) := by
              refine ⟨wq.heap.size, 1, rfl, by omega, by simp, fun j hj => ?_⟩
              obtain rfl : j = 0 := by simp at hj; omega
              rw [World.cell?_alloc_mark]; rfl
            go_wp2
            go_meet
            case rel => exact ⟨[r], HRR.out, by simp, decAt_miss HN.out hH hr0 hr1 hne.out, (Below.refl _ _).alloc (Nat.le_refl _) _⟩
    case rest =>
      obtain ⟨Lx, hRX, hLx, HD, HBx⟩ := hcut
      obtain ⟨gx, cx2, rfl, hgx0, hgx, hcx⟩ := hRX
      rename_i hk
      refine hk _ _ ?_
      exact t3 ao lo co raw useRaw pick ac ax lc cc lx cx nl A U E nb b c x vc vx vs1 ve LO w mx vs2 r gx cx2 Lx wq wc hcok hxok hlo HOut.out HCo.out HSt.out HMx0.out HEnd.out hgx hcx hLx HD.out HBx.out _ _ _ _ _ _ _ _ _ _ _ _ _ _ _ _ _ _ _ _ _ _ _ _ _ _ _ _ _ _ _ _ _ _ _ _ _ _ _ _ _ _ _ _ _ _ _ _ _ _ _ _ _ _ _ _ _ _ _ _ _ _ _ _ _ _ _ _ _ _ _ _ _ _ _ _ _ _ _ _ _ _ _ _ _ _ _ _ _ _ _ _ _ _ _ _ _ _ _ _ _ _ _ _ _ _ _ _ _ _ _ _ _ _ _ _ _ _ _ _ _ _ _ _ _ _ _ _ _ _ _ _ _ _ _ _ _ _ _ _ _ _ _ _ _ _ _ _ _ _ _ _ _ _ _ _ _ _ _ _ _ _ _ _ _ _ _ _ _ _ _ _ _ _ _ _ _ _ _ _ _ _ _ _ _ _ _ _ _ _ _ _ _ _ _ _ _ _ _ _ _ _ _ _ _ _ _ _ _ _ _ _ _ _ _ _ _ _ _ _ _ _ _ _ _ _ _ _
end Go.Proofs.Ybulkdjhw.A
