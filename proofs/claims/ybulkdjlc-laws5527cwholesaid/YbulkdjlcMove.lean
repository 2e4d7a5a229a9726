import Derived.Test.YbulkdjlcSmall
import Derived.WalkKit
import Derived.WalkSpells
import Derived.BigQuiet
import Derived.Deep.QuietTactic
import Derived.Deep.DeepCutAuto
namespace Go.Proofs.Ybulkdjlc.C
open Go.RowKit Go.MuLone
set_option linter.unusedVariables false
set_option maxHeartbeats 2000000 in
/-- move, of an element in the middle, to the head. -/
theorem move_mid (cb eb pb xb fb : Nat) (y1 y2 : Value) (w : World)
    (e1 : ¬ eb = cb) (e2 : ¬ cb = eb) (e3 : ¬ eb = pb) (e4 : ¬ pb = eb) (e5 : ¬ eb = xb) (e6 : ¬ xb = eb) (e7 : ¬ pb = xb) (e8 : ¬ xb = pb) (e9 : ¬ cb = pb) (e10 : ¬ pb = cb) (e11 : ¬ cb = xb) (e12 : ¬ xb = cb) (e13 : ¬ fb = cb) (e14 : ¬ cb = fb) (e15 : ¬ fb = eb) (e16 : ¬ eb = fb) (e17 : ¬ xb = fb) (e18 : ¬ fb = xb)
    (hq : (binOp .eql 32 (.pointer (some ⟨eb, 0, none⟩)) (.pointer (some ⟨cb, 3, none⟩))).run Yba.prog w = .ok (.bool false) w)
    (a0 : w.cell? ⟨eb, 0, none⟩ = some (.pointer (some ⟨xb, 0, none⟩))) (a1 : w.cell? ⟨eb, 1, none⟩ = some (.pointer (some ⟨pb, 0, none⟩))) (p0 : w.cell? ⟨pb, 0, none⟩ = some (.pointer (some ⟨eb, 0, none⟩))) (x1 : w.cell? ⟨xb, 1, none⟩ = some (.pointer (some ⟨eb, 0, none⟩)))
    (c3 : w.cell? ⟨cb, 3, none⟩ = some (.pointer (some ⟨fb, 0, none⟩))) (f1 : w.cell? ⟨fb, 1, none⟩ = some y1)
    (ga0 : w.frozen? ⟨eb, 0, none⟩ = false) (ga1 : w.frozen? ⟨eb, 1, none⟩ = false) (gp : w.frozen? ⟨pb, 0, none⟩ = false) (gx : w.frozen? ⟨xb, 1, none⟩ = false) (gc : w.frozen? ⟨cb, 3, none⟩ = false) (gf : w.frozen? ⟨fb, 1, none⟩ = false) :
    Calls Yba.prog 20 #[.pointer (some ⟨cb, 3, none⟩), .pointer (some ⟨eb, 0, none⟩), .pointer (some ⟨cb, 3, none⟩)] w fun e w' => e = .returned (.tuple #[]) ∧
      w' = ((((((w.setCell ⟨pb, 0, none⟩ (.pointer (some ⟨xb, 0, none⟩))).setCell ⟨xb, 1, none⟩ (.pointer (some ⟨pb, 0, none⟩))).setCell ⟨eb, 1, none⟩ (.pointer (some ⟨cb, 3, none⟩))).setCell ⟨eb, 0, none⟩ (.pointer (some ⟨fb, 0, none⟩))).setCell ⟨cb, 3, none⟩ (.pointer (some ⟨eb, 0, none⟩))).setCell ⟨fb, 1, none⟩ (.pointer (some ⟨eb, 0, none⟩))).drew.drew := by
  go_enter Yba.func20, Yba.ntmps20
  go_upto_region 1 with fail
  go_cut [] from 9 (fun wx => wx = (w.setCell ⟨pb, 0, none⟩ (.pointer (some ⟨xb, 0, none⟩))).drew)
  case first =>
    go_region
    all_goals (go_wp2_with fail; go_meet)
    all_goals (case rel => rfl)
  case rest =>
    obtain rfl := hcut
    go_upto_region 2 with fail
    go_cut [] from 9 (fun wx => wx = ((w.setCell ⟨pb, 0, none⟩ (.pointer (some ⟨xb, 0, none⟩))).setCell ⟨xb, 1, none⟩ (.pointer (some ⟨pb, 0, none⟩))).drew.drew)
    case first =>
      go_region
      all_goals (go_wp2_with fail; go_meet)
      all_goals (case rel => rfl)
    case rest =>
      obtain rfl := hcut
      go_wp2
      go_end0
      exact ⟨rfl, rfl⟩
set_option maxHeartbeats 2000000 in
/-- move, of the last element, to the head. -/
theorem move_last (cb eb pb fb : Nat) (y1 y2 : Value) (w : World)
    (e1 : ¬ eb = cb) (e2 : ¬ cb = eb) (e3 : ¬ eb = pb) (e4 : ¬ pb = eb) (e9 : ¬ cb = pb) (e10 : ¬ pb = cb) (e13 : ¬ fb = cb) (e14 : ¬ cb = fb) (e15 : ¬ fb = eb) (e16 : ¬ eb = fb)
    (hq : (binOp .eql 32 (.pointer (some ⟨eb, 0, none⟩)) (.pointer (some ⟨cb, 3, none⟩))).run Yba.prog w = .ok (.bool false) w)
    (a0 : w.cell? ⟨eb, 0, none⟩ = some (.pointer (some ⟨cb, 3, none⟩))) (a1 : w.cell? ⟨eb, 1, none⟩ = some (.pointer (some ⟨pb, 0, none⟩))) (p0 : w.cell? ⟨pb, 0, none⟩ = some (.pointer (some ⟨eb, 0, none⟩))) (c4 : w.cell? ⟨cb, 4, none⟩ = some (.pointer (some ⟨eb, 0, none⟩)))
    (c3 : w.cell? ⟨cb, 3, none⟩ = some (.pointer (some ⟨fb, 0, none⟩))) (f1 : w.cell? ⟨fb, 1, none⟩ = some y1)
    (ga0 : w.frozen? ⟨eb, 0, none⟩ = false) (ga1 : w.frozen? ⟨eb, 1, none⟩ = false) (gp : w.frozen? ⟨pb, 0, none⟩ = false) (gx : w.frozen? ⟨cb, 4, none⟩ = false) (gc : w.frozen? ⟨cb, 3, none⟩ = false) (gf : w.frozen? ⟨fb, 1, none⟩ = false) :
    Calls Yba.prog 20 #[.pointer (some ⟨cb, 3, none⟩), .pointer (some ⟨eb, 0, none⟩), .pointer (some ⟨cb, 3, none⟩)] w fun e w' => e = .returned (.tuple #[]) ∧
      w' = ((((((w.setCell ⟨pb, 0, none⟩ (.pointer (some ⟨cb, 3, none⟩))).setCell ⟨cb, 4, none⟩ (.pointer (some ⟨pb, 0, none⟩))).setCell ⟨eb, 1, none⟩ (.pointer (some ⟨cb, 3, none⟩))).setCell ⟨eb, 0, none⟩ (.pointer (some ⟨fb, 0, none⟩))).setCell ⟨cb, 3, none⟩ (.pointer (some ⟨eb, 0, none⟩))).setCell ⟨fb, 1, none⟩ (.pointer (some ⟨eb, 0, none⟩))).drew.drew := by
  go_enter Yba.func20, Yba.ntmps20
  go_upto_region 1 with fail
  go_cut [] from 9 (fun wx => wx = (w.setCell ⟨pb, 0, none⟩ (.pointer (some ⟨cb, 3, none⟩))).drew)
  case first =>
    go_region
    all_goals (go_wp2_with fail; go_meet)
    all_goals (case rel => rfl)
  case rest =>
    obtain rfl := hcut
    go_upto_region 2 with fail
    go_cut [] from 9 (fun wx => wx = ((w.setCell ⟨pb, 0, none⟩ (.pointer (some ⟨cb, 3, none⟩))).setCell ⟨cb, 4, none⟩ (.pointer (some ⟨pb, 0, none⟩))).drew.drew)
    case first =>
      go_region
      all_goals (go_wp2_with fail; go_meet)
      all_goals (case rel => rfl)
    case rest =>
      obtain rfl := hcut
      go_wp2
      go_end0
      exact ⟨rfl, rfl⟩

theorem mtf_first (cb eb : Nat) (ce cc : Array Value) (w : World) (hE : w.heap[eb]? = some (.cells ce 35 (0, 0))) (hC : w.heap[cb]? = some (.cells cc 39 (0, 0))) (h2 : ce[2]? = some (.pointer (some ⟨cb, 3, none⟩))) (h3 : cc[3]? = some (.pointer (some ⟨eb, 0, none⟩))) :
    Calls Yba.prog 14 #[.pointer (some ⟨cb, 3, none⟩), .pointer (some ⟨eb, 0, none⟩)] w fun e w' => e = .returned (.tuple #[]) ∧ w' = w := by
  have c2 := cell_at hE h2
  have c3 := cell_at hC h3
  have hn := neq_same w (tp := 33) ⟨cb, 3, none⟩ Yba.underlying33 info37
  have he := eql_same w (tp := 32) ⟨eb, 0, none⟩ Yba.underlying32 info35
  clear hE hC h2 h3
  go_enter Yba.func14, Yba.ntmps14
  go_wp2
  first | go_end0 | (simp only [Exit.inBlock, Exit.then]; refine bodyPost_ret (results_none rfl _ _ _) rfl ?_) | refine bodyPost_ret (results_none rfl _ _ _) rfl ?_
  exact ⟨rfl, rfl⟩
/-- MoveToFront of an element that is not the first: what move does. -/
theorem mtf_more (cb eb fb : Nat) (ce cc cf : Array Value) (W : World) (w : World) (hef : fb ≠ eb) (hE : w.heap[eb]? = some (.cells ce 35 (0, 0))) (hC : w.heap[cb]? = some (.cells cc 39 (0, 0))) (hF : w.heap[fb]? = some (.cells cf 35 (0, 0))) (h2 : ce[2]? = some (.pointer (some ⟨cb, 3, none⟩))) (h3 : cc[3]? = some (.pointer (some ⟨fb, 0, none⟩)))
    (hm : Calls Yba.prog 20 #[.pointer (some ⟨cb, 3, none⟩), .pointer (some ⟨eb, 0, none⟩), .pointer (some ⟨cb, 3, none⟩)] w fun e w' => e = .returned (.tuple #[]) ∧ w' = W) :
    Calls Yba.prog 14 #[.pointer (some ⟨cb, 3, none⟩), .pointer (some ⟨eb, 0, none⟩)] w fun e w' => e = .returned (.tuple #[]) ∧ w' = W := by
  have c2 := cell_at hE h2
  have c3 := cell_at hC h3
  have hn := neq_same w (tp := 33) ⟨cb, 3, none⟩ Yba.underlying33 info37
  have he := eql_other w (tp := 32) (a := ⟨fb, 0, none⟩) (b := ⟨eb, 0, none⟩) Yba.underlying32 info35 (by omega) (fun h => hef (congrArg Addr.block h)) hF hE
  have HM := hide2 hm
  clear hE hC hF h2 h3 hef hm
  go_enter Yba.func14, Yba.ntmps14
  go_wp2_with (go_at_call 20; refine HM.out.mono ?_; rintro e w' ⟨rfl, rfl⟩)
  go_end0
  exact ⟨rfl, rfl⟩
end Go.Proofs.Ybulkdjlc.C
