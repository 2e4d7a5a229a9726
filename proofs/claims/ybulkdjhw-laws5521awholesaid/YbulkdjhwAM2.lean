import Derived.Test.YbulkdjhwARegion
import Derived.WalkKit
import Derived.WalkSpells
import Derived.BigQuiet
import Derived.Deep.QuietTactic
import Derived.Laws.CopyOwn
import Derived.Laws.ResultCell
import Derived.Deep.DeepCutAuto
import Derived.Maps.OwnSet
import Derived.Test.YbulkdjhwAT1
namespace Go.Proofs.Ybulkdjhw.A
open Go.RowKit
set_option linter.unusedVariables false
theorem stA_made {w wo wp w4 : World} {A U b : Nat} {c x : Tab} {vc vx vs1 ve : Nat → Value} (hB : Base wp A U c x vc vx) (hU : U ≤ wp.heap.size) (hE : ExpSt wo wp wo.heap.size c x ve 12) (hM : MapIs w4 w4.heap.size (some b) c vs1) (hB4 : Below wp.heap.size wp w4) (hle : ∀ i, i < 12 → (ex c x i).length ≤ 65536) (hbe : Below w.heap.size w wp) :
    StA w (w4.alloc (Obj.cells #[Value.map none, Value.map (some b), Value.map none, Value.slice none 0 0] 44)) A U wo.heap.size w4.heap.size b c x vc vx vs1 ve := by
  have hs := hB4.size
  have hEl := hE.lt
  have hb : Below wp.heap.size wp (w4.alloc (Obj.cells #[Value.map none, Value.map (some b), Value.map none, Value.slice none 0 0] 44)) := hB4.alloc hs _
  refine ⟨hB.below (hb.mono hU), by simp only [World.size_alloc]; omega, by simp only [World.size_alloc]; omega, World.cell?_alloc_mark w4 _ 44 (0, 0) 1, by simp only [World.size_alloc]; omega, (hM.below ((Below.refl _ _).alloc (Nat.le_refl _) _)).mono (by simp only [World.size_alloc]; omega), (hb.block _ hEl).trans hE.ep, fun i hi => ?_, hle, hbe.trans (hb.mono hbe.size)⟩
  obtain ⟨g, cap, hv, h1, h2, hc⟩ := (hE.rows i hi).below hb (Nat.le_refl _)
  exact ⟨g, cap, hv, by omega, by simp only [World.size_alloc]; omega, hc⟩
set_option maxRecDepth 100000 in
set_option maxHeartbeats 4000000 in
theorem m2 (ao : Option Addr) (lo co : Nat) (raw : Int) (useRaw : Bool) (pick : Nat) (ac ax : Option Addr) (lc cc lx cx : Nat) (nl : Bool) (A U : Nat) (c x : Tab) (vc vx : Nat → Value) (LO : List Int) (w : World) (w3 wo : World) (hcok : c.ok) (hxok : x.ok) (hraw0 : -2147483648 ≤ raw) (hraw1 : raw ≤ 2147483647) (hpick : pick < 256)
    (hlo : lo ≤ 1048576) (hOut : OutRow w w.heap.size ao lo LO) (hco : ao = none → co = 0) (hend : nl = false ∨ nl = true ∧ x = tab0)
    (hBs : Base wo A U c x vc vx) (hUse : UseSt w3 wo U c x vc vx 12) (hbe : Below w.heap.size w wo)
    (c7 c8 c9 c10 c11 c12 c13 c14 c23 c24 c25 c26 c27 c28 c29 c30 c31 c32 c33 c34 c35 c36 c37 c38 c39 c40 c41 c42 c43 c44 c45 c46 c47 c48 c49 c50 c51 c52 c53 c54 c55 c56 c57 c58 c59 c60 c61 c62 c63 c64 c65 c66 c67 c68 c69 c70 c71 c72 c73 c74 c75 c76 c77 c78 c79 c80 c81 c82 c83 c84 c85 c86 c87 c88 c89 c90 c91 c92 c93 c94 c95 c96 c97 c98 c99 c100 c101 c102 c103 c104 c105 c106 c107 c108 c109 c110 c111 c112 c113 c114 c115 c116 c117 c118 c119 c120 c121 c122 c123 c124 c125 c126 c127 c128 c129 c130 c131 c132 c133 c134 c135 c136 c137 c138 c139 c140 c141 c142 c143 c144 c145 c146 c147 c148 c149 c150 c151 c152 c153 c154 c155 c156 c157 c158 c159 c160 c161 c162 c163 c164 c165 c166 c167 c168 c169 c170 c171 c172 c173 c174 c175 c176 c177 c178 c179 c180 c181 c182 c183 c184 c185 c186 c187 c188 c189 c190 c191 c192 c193 c194 c195 c196 c197 c198 c199 c200 c201 c202 c203 c204 c205 c206 c207 c208 c209 c210 c211 c212 c213 c214 c215 c216 c217 c218 c219 c220 c221 c222 c223 c224 c225 c226 c227 c228 c229 c230 c231 c232 c233 c234 c235 c236 c237 c238 c239 c240 c241 c242 c243 c244 : Value) :
    Code.wp Yba.prog (fromReg 34 (Yba.f3.body.getD .skip)) (bodyPost Yba.prog Yba.f3 fun e w' => e = .returned (.bool true) ∧ Below w.heap.size w w') ⟨#[.slice ao lo co, .int .i32 raw, .bool useRaw, .int .u8 (pick : Int), .slice ac lc cc, .slice ax lx cx, .bool nl, c7, c8, c9, c10, c11, c12, c13, c14, .pointer (some ⟨A, 0, none⟩), .pointer (some ⟨A + 1, 0, none⟩), .pointer (some ⟨A + 1 + 1, 0, none⟩), .pointer (some ⟨A + 1 + 1 + 1, 0, none⟩), .pointer (some ⟨A + 1 + 1 + 1 + 1, 0, none⟩), .pointer (some ⟨U, 0, none⟩), .pointer (some ⟨U + 1, 0, none⟩), .pointer (some ⟨U + 1 + 1, 0, none⟩), c23, c24, c25, c26, c27, c28, c29, c30, c31, c32, c33, c34, c35, c36, c37, c38, c39, c40, c41, c42, c43, c44, c45, c46, c47, c48, c49, c50, c51, c52, c53, c54, c55, c56, c57, c58, c59, c60, c61, c62, c63, c64, c65, c66, c67, c68, c69, c70, c71, c72, c73, c74, c75, c76, c77, c78, c79, c80, c81, c82, c83, c84, c85, c86, c87, c88, c89, c90, c91, c92, c93, c94, c95, c96, c97, c98, c99, c100, c101, c102, c103, c104, c105, c106, c107, c108, c109, c110, c111, c112, c113, c114, c115, c116, c117, c118, c119, c120, c121, c122, c123, c124, c125, c126, c127, c128, c129, c130, c131, c132, c133, c134, c135, c136, c137, c138, c139, c140, c141, c142, c143, c144, c145, c146, c147, c148, c149, c150, c151, c152, c153, c154, c155, c156, c157, c158, c159, c160, c161, c162, c163, c164, c165, c166, c167, c168, c169, c170, c171, c172, c173, c174, c175, c176, c177, c178, c179, c180, c181, c182, c183, c184, c185, c186, c187, c188, c189, c190, c191, c192, c193, c194, c195, c196, c197, c198, c199, c200, c201, c202, c203, c204, c205, c206, c207, c208, c209, c210, c211, c212, c213, c214, c215, c216, c217, c218, c219, c220, c221, c222, c223, c224, c225, c226, c227, c228, c229, c230, c231, c232, c233, c234, c235, c236, c237, c238, c239, c240, c241, c242, c243, c244], []⟩ wo := by
  have HOut := hide2 hOut
  have HCo := hide2 hco
  have HEnd := hide2 hend
  have HBo := hide2 hBs
  have HUo := hide2 hUse
  have hBw := hide2 hbe
  have hUlt := hUse.lt
  have hU3 := hBs.lt
  obtain ⟨i0, hi, hz0, hz1, hz2⟩ := info_parts info21
  clear hOut hco hend hBs hUse hbe
  conv => arg 2; whnf
  go_wp2
  go_loop [27] (fun i => ∃ k : Nat, k ≤ 12 ∧ i = .int .i64 k ∧ Hid (∀ j, j < k → cn c x j ≤ 65536)) (fun i => 12 - (intOf i).toNat)
  case atStart => exact ⟨0, by omega, rfl, fun j hj => (by omega)⟩
  case round =>
    obtain ⟨k, hk, rfl, hall⟩ := hrel
    by_cases hlt : k < 12
    · have g2 : wo.cell? ⟨U + 1 + 1, k, none⟩ = some (.int .i64 (cn c x k : Int)) := by
        have := cell_at HUo.out.ct (cntA_at c x 12 k hlt)
        rwa [if_pos hlt] at this
      by_cases hbig : (65536 : Int) < (cn c x k : Int)
      · go_wp2
        go_ret
        exact ⟨rfl, hBw.out⟩
      · go_wp2
        go_round
        case rel =>
          refine ⟨k + 1, by omega, by go_num, fun j hj => ?_⟩
          by_cases e : j = k
          · subst e; omega
          · exact hall.out j (by omega)
        case measure => simp [intOf]; omega
    · obtain rfl : k = 12 := by omega
      go_wp2
      go_loopw [29] (fun i wr => ∃ k : Nat, k ≤ 12 ∧ i = .int .i64 k ∧ ∃ ve, Hid (ExpSt wo wr wo.heap.size c x ve k)) (fun i _ => 12 - (intOf i).toNat)
      case atStart => exact ⟨0, by omega, rfl, nilV, expSt_start wo c x⟩
      case round =>
        obtain ⟨k, hk, rfl, ve, HE⟩ := hrel
        obtain ⟨wp, rfl⟩ : ∃ wp, wp = wr := ⟨_, rfl⟩
        have hElt := HE.out.lt
        have HBp : Hid (Base wp A U c x vc vx) := HBo.out.below (HE.out.be.mono (by omega))
        by_cases hlt : k < 12
        · have d0 : wp.cell? ⟨A, k, none⟩ = some (.int .i32 (al k)) := cell_at HBp.out.alp (alphaV_at k hlt)
          have m2 : wp.cell? ⟨U + 1, k, none⟩ = some (.bool (useT c x k).isSome) := by
            have := (HE.out.be.cell (p := ⟨U + 1, k, none⟩) (show U + 1 < _ by omega)).trans (cell_at HUo.out.mp (hasA_at _ k hlt))
            rwa [tk12 _ k hlt] at this
          have e3 : wp.cell? ⟨wo.heap.size, k, none⟩ = some (ve k) := cell_at HE.out.ep (idxA_at _ k hlt)
          have f3 : wp.frozen? ⟨wo.heap.size, k, none⟩ = false := frozen_of_row _ _ k _ _ HE.out.ep
          have hbd := al_bd k hlt
          by_cases h9 : k < 9
          · have hH : isH (al k) = false := by rw [isH_al k hlt]; exact decide_eq_false (by omega)
            cases hu : useT c x k with
            | none =>
              rw [hu] at m2
              have HEX : Hid (ex c x k = [al k]) := ex_bare h9 hu
              have HRR : Hid (RunRow (wp.alloc (.cells #[.int .i32 (al k)] 21)) wo.heap.size (wp.alloc (.cells #[.int .i32 (al k)] 21)).heap.size (.slice (some ⟨wp.heap.size, 0, none⟩) 1 1) [al k]) := by
                refine ⟨wp.heap.size, 1, rfl, hElt, by simp, fun j hj => ?_⟩
                obtain rfl : j = 0 := by simp at hj; omega
                rw [World.cell?_alloc_mark]; rfl
              clear hu
              go_wp2_with (first | (go_at_call 7; refine (hangul_any _ _ (by omega) (by omega)).mono ?_; rintro e w' ⟨rfl, hw'⟩; obtain rfl := hw'.symm))
              go_roundw
              case rel =>
                refine ⟨k + 1, by omega, by go_num, updV ve k (.slice (some ⟨wp.heap.size, 0, none⟩) 1 1), ?_⟩
                have := HE.out.step hlt ((Below.refl _ _).alloc (Nat.le_refl _) _) (v := .slice (some ⟨wp.heap.size, 0, none⟩) 1 1) (by rw [HEX.out]; exact HRR.out)
                rw [World.setCell_alloc_past _ _ _ _ hElt] at this
                exact this
              case measure => simp [intOf]; omega
            | some l =>
              rw [hu] at m2
              have HEX : Hid (ex c x k = l.flatMap (ex c x)) := ex_mapped hcok hxok h9 hu
              obtain ⟨g, cap, hv, hg, hcg⟩ := use_row (w3 := w3) HBp.out hlt hu
              have q2 : wp.cell? ⟨U, k, none⟩ = some (.slice (some ⟨g, 0, none⟩) l.length cap) := by
                rw [← hv]; exact (HE.out.be.cell (p := ⟨U, k, none⟩) (show U < _ by omega)).trans (cell_at HUo.out.us (idxA_at _ k hlt))
              have hl4 := (use_ok hcok hxok k l hu).2.1
              have HLT : Hid (∀ j ∈ l, j < k) := (use_ok hcok hxok k l hu).2.2
              have HPL : Hid (∀ j, ((l.take j).flatMap (ex c x)).length ≤ 65536) := part_le hcok hxok hall.out h9 hu
              have HG : Hid (∀ j, j < l.length → wp.cell? ⟨g, j, none⟩ = some (.int .i64 ((l.getD j 0 : Nat) : Int))) := hcg
              have hown0 : (wp.alloc (.cells #[] 21)).ownsRow wp.heap.size 21 1 (.slice (some ⟨wp.heap.size, 0, none⟩) 0 0) 0 [] := World.ownsRow_lit wp #[] 0 (Nat.le_refl _) (by unfold maxLen; omega) rfl
              have HO0 := hide2 hown0
              have q2' : (wp.alloc (.cells #[] 21)).cell? ⟨U, k, none⟩ = some (.slice (some ⟨g, 0, none⟩) l.length cap) := (((Below.refl wp.heap.size wp).alloc (Nat.le_refl _) (.cells #[] 21)).cell (p := ⟨U, k, none⟩) (show U < _ by omega)).trans q2
              clear hown0 hcg hu hv
              go_wp2_with (first | (go_at_call 7; refine (hangul_any _ _ (by omega) (by omega)).mono ?_; rintro e w' ⟨rfl, hw'⟩; obtain rfl := hw'.symm))
              go_loopw [30, 157] (fun u q wr => ∃ j : Nat, j ≤ l.length ∧ q = .int .i64 j ∧ (∃ gg cg, u = .slice (some ⟨gg, 0, none⟩) ((l.take j).flatMap (ex c x)).length cg) ∧ Hid (RowR wr wp.heap.size u ((l.take j).flatMap (ex c x))) ∧ Below wp.heap.size wp wr) (fun _ q _ => l.length - (intOf q).toNat)
              case atStart => exact ⟨0, Nat.zero_le _, rfl, ⟨_, _, rfl⟩, HO0.out, (Below.refl _ _).alloc (Nat.le_refl _) _⟩
              case round =>
                obtain ⟨j, hj, rfl, ⟨gg, cg, rfl⟩, hok, hBj⟩ := hrel
                clear q2 q2'
                by_cases hjl : j < l.length
                · obtain ⟨y, hy⟩ : ∃ y, y = l.getD j 0 := ⟨_, rfl⟩
                  have hyl : y ∈ l := by rw [hy, List.getD_eq_getElem?_getD, List.getElem?_eq_getElem hjl]; exact List.getElem_mem hjl
                  have hyk := HLT.out y hyl
                  have g1 : wr.cell? ⟨g, j, none⟩ = some (.int .i64 (y : Int)) := by rw [hy]; exact (hBj.cell (p := ⟨g, j, none⟩) (show g < _ by omega)).trans (HG.out j hjl)
                  obtain ⟨g', cap', hv', hg1', hg2', hcg'⟩ := HE.out.rows y hyk
                  have g2 : wr.cell? ⟨wo.heap.size, y, none⟩ = some (.slice (some ⟨g', 0, none⟩) (ex c x y).length cap') := by rw [← hv']; exact (hBj.cell (p := ⟨wo.heap.size, y, none⟩) hElt).trans (cell_at HE.out.ep (idxA_at _ y (by omega)))
                  have HT : Hid ((l.take (j + 1)).flatMap (ex c x) = (l.take j).flatMap (ex c x) ++ ex c x y) := by show _ = _; rw [hy]; exact take_flat _ l j hjl
                  have hle := HPL.out (j + 1)
                  rw [HT.out, List.length_append] at hle
                  have hl : ((ex c x y).map (Value.int .i32)).length = (ex c x y).length * 1 := by simp
                  have hnews : ∀ q u, ((ex c x y).map (Value.int .i32))[q]? = some u → wr.cell? ((⟨g', 0, none⟩ : Addr).add q) = some u := by
                    intro q u hq
                    have hq2 : q < (ex c x y).length := by have := (List.getElem?_eq_some_iff.1 hq).1; simpa using this
                    rw [Addr.add_lit, Nat.zero_add, hBj.cell (p := ⟨g', q, none⟩) hg2', hcg' q hq2, ← hq]
                    simp [List.getElem?_eq_getElem hq2]
                  have HN := hide2 hnews
                  have hszj : wp.heap.size ≤ wr.heap.size := hBj.size
                  clear hy hv' hcg' hnews
                  go_wp2_with (at_builtin; refine wpList_append_own _ rfl _ _ 22 rfl wp.heap.size 21 i0 (.int .i32 0) 1 4 Yba.underlying22 hi hz0 hz1 hz2 rfl (by decide) _ _ _ rfl hok.out ⟨g', 0, none⟩ (ex c x y).length cap' _ rfl hl HN.out (ints_oneCell _ _) (by unfold maxLen; omega) (by omega) hszj ?_; intro v5 w5 hown5 hgrow5 hnil5; have HV5 := hide2 (rowR_snoc (M := ex c x y) rfl hown5); have HB5 := hide2 ((hBj.grown hgrow5 hszj (fun q hq => own_lt hok.out q hq) : Below wp.heap.size wp w5)); have HN5 : Hid (v5 ≠ .slice none 0 0) := (fun h => by have := (hnil5.1 h).1; cases this); clear hown5 hgrow5 hnil5)
                  go_roundw
                  case rel =>
                    have hsh := runRow_of HV5.out HN5.out hElt
                    obtain ⟨g6, c6, hv6, _⟩ := hsh
                    refine ⟨j + 1, by omega, by go_num, ⟨g6, c6, by rw [HT.out]; exact hv6⟩, ?_, HB5.out⟩
                    rw [HT.out]; exact HV5.out
                  case measure => simp [intOf]; omega
                · obtain rfl : j = l.length := by omega
                  obtain ⟨n, hn⟩ : ∃ n, n = ((l.take l.length).flatMap (ex c x)).length := ⟨_, rfl⟩
                  rw [← hn] at hok ⊢
                  have HNN := hide2 hn
                  clear hn
                  have e4 := (hBj.cell (p := ⟨wo.heap.size, k, none⟩) hElt).trans e3
                  have f4 := (hBj.frozen (p := ⟨wo.heap.size, k, none⟩) hElt).trans f3
                  go_wp2
                  go_roundw
                  case rel =>
                    refine ⟨k + 1, by omega, by go_num, updV ve k (.slice (some ⟨gg, 0, none⟩) n cg), ?_⟩
                    have hrr := runRow_of hok.out (fun h => (by cases h)) hElt
                    have hst := HE.out.step hlt hBj (v := .slice (some ⟨gg, 0, none⟩) n cg) (by rw [HEX.out]; rw [List.take_of_length_le (Nat.le_refl _)] at hrr; exact hrr)
                    exact hst
                  case measure => simp [intOf]; omega
          · have hH : isH (al k) = true := by rw [isH_al k hlt]; exact decide_eq_true (by omega)
            have HEX : Hid (ex c x k = jamoL (al k)) := ex_hangul h9
            go_wp2_with (first | (go_at_call 7; refine (hangul_any _ _ (by omega) (by omega)).mono ?_; rintro e w' ⟨rfl, hw'⟩; obtain rfl := hw'.symm) | (go_at_call 8; refine (jamo_any _ _ hH).mono ?_; rintro e w4 ⟨g, cp, rfl, hrow, hB4⟩; have e4 := (hB4.cell (p := ⟨wo.heap.size, k, none⟩) hElt).trans e3; have f4 := (hB4.frozen (p := ⟨wo.heap.size, k, none⟩) hElt).trans f3; have HRR := hide2 (runRow_of (lo := wo.heap.size) hrow (fun h => (by cases h)) hElt); clear hrow))
            go_roundw
            case rel =>
              refine ⟨k + 1, by omega, by go_num, updV ve k (.slice (some ⟨g, 0, none⟩) (jamoL (al k)).length cp), ?_⟩
              exact HE.out.step hlt hB4 (by rw [HEX.out]; exact HRR.out)
            case measure => simp [intOf]; omega
        · obtain rfl : k = 12 := by omega
          have hle12 : Hid (∀ i, i < 12 → (ex c x i).length ≤ 65536) := fun i hi => ex_le hcok hxok hall.out hi
          have HEo := hide2 HE.out
          have hUS : U ≤ wp.heap.size := by omega
          have hBwp : Hid (Below w.heap.size w wp) := hBw.out.trans (HE.out.be.mono hBw.out.size)
          clear HE hlt hk
          go_upto_region 54 with fail
          go_cut [33] from 42 (fun s33 wx => ∃ nb b vs1, s33 = .pointer (some ⟨nb, 0, none⟩) ∧ Hid (StA w wx A U wo.heap.size nb b c x vc vx vs1 ve))
          case first =>
            go_wp2_with (first | refine wpList_load_row rfl 26 _ rfl _ rfl 26 _ (0,0) _ HBp.out.cH Yba.underlying26 rfl (hasA_size c) ?_ | refine wpList_load_row rfl 28 _ rfl _ rfl 28 _ (0,0) _ HBp.out.cI Yba.underlying28 rfl (idxA_size vc) ?_ | refine wpList_load_row rfl 24 _ rfl _ rfl 24 _ (0,0) _ HBp.out.alp Yba.underlying24 rfl info24s ?_ | (go_at_call 9; refine (build_any c hcok vc wp (fun i l hl => (HBp.out.cR i l hl).mono hUS)).mono ?_; rintro e w4 ⟨b, vs1, rfl, hM, hB4⟩; have HM4 := hide2 hM; clear hM))
            go_meet
            case rel => exact ⟨w4.heap.size, b, vs1, rfl, stA_made HBp.out hUS HEo.out HM4.out hB4 hle12.out hBwp.out⟩
          case rest =>
            obtain ⟨nb, b, vs1, rfl, HSt⟩ := hcut
            rename_i hkk
            refine hkk _ _ ?_
            rcases HEnd.out with hnl | ⟨hnl, hx0⟩
            · subst hnl
              exact t1F ao lo co raw useRaw pick ac ax lc cc lx cx A U wo.heap.size nb b c x vc vx vs1 ve LO w wc hcok hxok hraw0 hraw1 hpick hlo HOut.out HCo.out HSt.out _ _ _ _ _ _ _ _ _ _ _ _ _ _ _ _ _ _ _ _ _ _ _ _ _ _ _ _ _ _ _ _ _ _ _ _ _ _ _ _ _ _ _ _ _ _ _ _ _ _ _ _ _ _ _ _ _ _ _ _ _ _ _ _ _ _ _ _ _ _ _ _ _ _ _ _ _ _ _ _ _ _ _ _ _ _ _ _ _ _ _ _ _ _ _ _ _ _ _ _ _ _ _ _ _ _ _ _ _ _ _ _ _ _ _ _ _ _ _ _ _ _ _ _ _ _ _ _ _ _ _ _ _ _ _ _ _ _ _ _ _ _ _ _ _ _ _ _ _ _ _ _ _ _ _ _ _ _ _ _ _ _ _ _ _ _ _ _ _ _ _ _ _ _ _ _ _ _ _ _ _ _ _ _ _ _ _ _ _ _ _ _ _ _ _ _ _ _ _ _ _ _ _ _ _ _ _ _ _ _ _ _ _ _ _ _ _ _ _ _ _ _ _ _ _ _ _ _ _ _ _
            · subst hnl
              exact t1T ao lo co raw useRaw pick ac ax lc cc lx cx A U wo.heap.size nb b c x vc vx vs1 ve LO w wc hcok hxok hraw0 hraw1 hpick hlo HOut.out HCo.out HSt.out hx0 _ _ _ _ _ _ _ _ _ _ _ _ _ _ _ _ _ _ _ _ _ _ _ _ _ _ _ _ _ _ _ _ _ _ _ _ _ _ _ _ _ _ _ _ _ _ _ _ _ _ _ _ _ _ _ _ _ _ _ _ _ _ _ _ _ _ _ _ _ _ _ _ _ _ _ _ _ _ _ _ _ _ _ _ _ _ _ _ _ _ _ _ _ _ _ _ _ _ _ _ _ _ _ _ _ _ _ _ _ _ _ _ _ _ _ _ _ _ _ _ _ _ _ _ _ _ _ _ _ _ _ _ _ _ _ _ _ _ _ _ _ _ _ _ _ _ _ _ _ _ _ _ _ _ _ _ _ _ _ _ _ _ _ _ _ _ _ _ _ _ _ _ _ _ _ _ _ _ _ _ _ _ _ _ _ _ _ _ _ _ _ _ _ _ _ _ _ _ _ _ _ _ _ _ _ _ _ _ _ _ _ _ _ _ _ _ _ _ _ _ _ _ _ _ _ _ _ _ _ _ _
end Go.Proofs.Ybulkdjhw.A
