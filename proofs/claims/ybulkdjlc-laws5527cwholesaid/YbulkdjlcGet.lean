import Derived.Test.YbulkdjlcMove
import Derived.WalkKit
import Derived.WalkSpells
import Derived.BigQuiet
import Derived.Deep.QuietTactic

namespace Go.Proofs.Ybulkdjlc.C
open Go.RowKit Go.MuLone
set_option linter.unusedVariables false
theorem assert_one (a : Addr) (w : World) : (Instr.typeAssert (.iface 48 (.pointer (some a))) 20 48 false).run Yba.prog w = .ok (.pointer (some a)) w := by
  first | kernel_rfl | (simp [Instr.typeAssert, run_underlying Yba.underlying48])
theorem assert_two (a : Addr) (w : World) : (Instr.typeAssert (.iface 48 (.pointer (some a))) 20 48 true).run Yba.prog w = .ok (.tuple #[.pointer (some a), .bool true]) w := by
  first | kernel_rfl | (simp [Instr.typeAssert, run_underlying Yba.underlying48])
set_option maxHeartbeats 1000000 in
/-- get, where the map holds nothing at the key. -/
theorem get_miss (cb M : Nat) (k : Int) (w : World) (c0 : w.cell? ⟨cb, 0, none⟩ = some (.int .i32 0)) (c8 : w.cell? ⟨cb, 8, none⟩ = some (.map (some M))) (f0 : w.frozen? ⟨cb, 0, none⟩ = false)
    (hl : (Instr.lookup 24 (.map (some M)) (.int .i64 k) true).run Yba.prog (w.setCell ⟨cb, 0, none⟩ (.int .i32 1)) = .ok (.tuple #[.pointer none, .bool false]) (w.setCell ⟨cb, 0, none⟩ (.int .i32 1))) :
    Calls Yba.prog 5 #[.pointer (some ⟨cb, 0, none⟩), .int .i64 k] w fun e w' => e = .returned (.pointer none) ∧ w' = (w.setCell ⟨cb, 0, none⟩ (.int .i32 1)).setCell ⟨cb, 0, none⟩ (.int .i32 0) := by
  go_enter_defers Yba.func5, Yba.ntmps5
  go_wp2_with (go_at_call 13; refine (lock_free Yba.muLib ⟨cb, 0, none⟩ _ c0 f0).mono ?_; rintro e w' ⟨rfl, rfl⟩)
  refine leaves_cons (f := 7) (args := #[.pointer (some ⟨cb, 0, none⟩)]) (by simp) (by simp [go_sem]) ?_
  refine (unlock_deferred Yba.muLib ⟨cb, 0, none⟩ .returning _ ?_ ?_).mono ?_
  · exact World.cell?_setCell_same w ⟨cb, 0, none⟩ (.int .i32 1) c0
  · simp [f0]
  rintro e u' w'' ⟨rfl, rfl, rfl⟩
  exact ⟨_, results_tmp rfl _ _ _, rfl, rfl⟩
set_option maxHeartbeats 1000000 in
/-- get, where the map holds the element in block eb, whose record is in block rb. -/
theorem get_hit (cb M eb qb rb : Nat) (k : Int) (w W : World) (e1 : ¬ eb = cb) (c0 : w.cell? ⟨cb, 0, none⟩ = some (.int .i32 0)) (c8 : w.cell? ⟨cb, 8, none⟩ = some (.map (some M))) (f0 : w.frozen? ⟨cb, 0, none⟩ = false)
    (hl : (Instr.lookup 24 (.map (some M)) (.int .i64 k) true).run Yba.prog (w.setCell ⟨cb, 0, none⟩ (.int .i32 1)) = .ok (.tuple #[.pointer (some ⟨eb, 0, none⟩), .bool true]) (w.setCell ⟨cb, 0, none⟩ (.int .i32 1)))
    (hm : Calls Yba.prog 14 #[.pointer (some ⟨cb, 3, none⟩), .pointer (some ⟨eb, 0, none⟩)] (w.setCell ⟨cb, 0, none⟩ (.int .i32 1)) fun e w' => e = .returned (.tuple #[]) ∧ w' = W)
    (v3 : W.cell? ⟨eb, 3, none⟩ = some (.iface 48 (.pointer (some ⟨qb, 0, none⟩)))) (q1 : W.cell? ⟨qb, 1, none⟩ = some (.pointer (some ⟨rb, 0, none⟩))) (w0 : W.cell? ⟨cb, 0, none⟩ = some (.int .i32 1)) (g0 : W.frozen? ⟨cb, 0, none⟩ = false) :
    Calls Yba.prog 5 #[.pointer (some ⟨cb, 0, none⟩), .int .i64 k] w fun e w' => e = .returned (.pointer (some ⟨rb, 0, none⟩)) ∧ w' = W.setCell ⟨cb, 0, none⟩ (.int .i32 0) := by
  have HM := hide2 hm
  have hta := assert_one
  clear hm
  go_enter_defers Yba.func5, Yba.ntmps5
  go_wp2_with (first | (go_at_call 13; refine (lock_free Yba.muLib ⟨cb, 0, none⟩ _ c0 f0).mono ?_; rintro e w' ⟨rfl, rfl⟩) | (go_at_call 14; refine HM.out.mono ?_; rintro e w' ⟨rfl, rfl⟩))
  refine leaves_cons (f := 7) (args := #[.pointer (some ⟨cb, 0, none⟩)]) (by simp) (by simp [go_sem]) ?_
  refine (unlock_deferred Yba.muLib ⟨cb, 0, none⟩ .returning _ w0 g0).mono ?_
  rintro e u' w'' ⟨rfl, rfl, rfl⟩
  exact ⟨_, results_tmp rfl _ _ _, rfl, rfl⟩
end Go.Proofs.Ybulkdjlc.C
