import Derived.Test.YbulkdjhwARegion
import Derived.WalkKit
import Derived.WalkSpells
import Derived.BigQuiet
import Derived.Deep.QuietTactic
import Derived.Laws.CopyOwn
import Derived.Laws.ResultCell
import Derived.Deep.DeepCutAuto
import Derived.Maps.OwnSet
import Derived.Test.YbulkdjhwAM1
namespace Go.Proofs.Ybulkdjhw.A
open Go.RowKit
set_option linter.unusedVariables false
set_option maxRecDepth 100000 in
set_option maxHeartbeats 4000000 in
theorem law_compat (ao : Option Addr) (lo co : Nat) (raw : Int) (useRaw : Bool) (pick : Nat) (ac ax : Option Addr) (lc cc lx cx : Nat) (esC esX : List Ent) (w : World)
    (hraw0 : -2147483648 ≤ raw) (hraw1 : raw ≤ 2147483647) (hpick : pick < 256) (LO : List Int) (hOut : OutRow w w.heap.size ao lo LO) (hco : ao = none → co = 0) (hlo : lo ≤ 1048576) (hlcx : lc + lx ≤ 1048576) (hC : EntRow w w.heap.size ac lc esC) (hX : EntRow w w.heap.size ax lx esX) (hpC : ∀ e ∈ esC, 0 ≤ e.1) (hpX : ∀ e ∈ esX, 0 ≤ e.1) :
    Calls Yba.prog 3 #[.slice ao lo co, .int .i32 raw, .bool useRaw, .int .u8 (pick : Int), .slice ac lc cc, .slice ax lx cx, .bool false] w fun e w' => e = .returned (.bool true) ∧ Below w.heap.size w w' := by
  have hd : decide ((1048576 : Int) < (lo : Int)) = false := decide_eq_false (by omega)
  obtain ⟨c, hc⟩ : ∃ c, c = fillT tab0 esC := ⟨_, rfl⟩
  have hcok : c.ok := by rw [hc]; exact fillT_ok tab0_ok esC hpC
  obtain ⟨x, hx⟩ : ∃ x, x = fillT tab0 esX := ⟨_, rfl⟩
  have hxok : x.ok := by rw [hx]; exact fillT_ok tab0_ok esX hpX
  have HX : Hid (EntRow w w.heap.size ax lx esX ∧ x = fillT tab0 esX) := ⟨hX, hx⟩
  have HC : Hid (EntRow w w.heap.size ac lc esC ∧ c = fillT tab0 esC) := ⟨hC, hc⟩
  have HOut := hide2 hOut
  have HCo := hide2 hco
  clear hc hx hC hpC hOut hco hX hpX
  go_enter Yba.func3, Yba.ntmps3
  go_wp2_with (first | (go_at_call 5; refine (alpha_any _).mono ?_; rintro e w1 ⟨rfl, hB1⟩; rw [alphaV_lit]) | fail)
  have h5 := five_blocks w1 (.cells alphaV 24) (.cells (hasA tab0) 26) (.cells (hasA tab0) 26) (.cells (idxA nilV) 28) (.cells (idxA nilV) 28)
  have hF5 := (⟨h5.1, h5.2.1, h5.2.2.1, h5.2.2.2.1, h5.2.2.2.2.1, h5.2.2.2.2.2⟩ : Five _ w1.heap.size)
  have hBW : Below w.heap.size w (((((w1.alloc (.cells alphaV 24)).alloc (.cells (hasA tab0) 26)).alloc (.cells (hasA tab0) 26)).alloc (.cells (idxA nilV) 28)).alloc (.cells (idxA nilV) 28)) := by
    have := hB1.size
    exact ((((hB1.alloc (by omega) _).alloc (by simp only [World.size_alloc]; omega) _).alloc (by simp only [World.size_alloc]; omega) _).alloc (by simp only [World.size_alloc]; omega) _).alloc (by simp only [World.size_alloc]; omega) _
  refine (fill_any ac lc cc (w1.heap.size + 1) (w1.heap.size + 1 + 1 + 1) w.heap.size esC _ (by omega) (by simp only [World.size_alloc]; omega) (by simp only [World.size_alloc]; omega) (by omega) (by have := hB1.size; omega) (by have := hB1.size; omega) (HC.out.1.below hBW) nilV hF5.fill1).mono ?_
  rintro e w2 ⟨rfl, vc, F1⟩
  rw [← HC.out.2] at F1
  have hBA : Below w1.heap.size _ w2 := F1.kept.below (by omega) (by omega) (by rw [hF5.size]; omega)
  have hB2 : Below w.heap.size w w2 := hBW.trans (hBA.mono hB1.size)
  go_upto_if 57 with fail
  go_cut [] from 42 (fun wx => ∃ vx, Hid (Base wx w1.heap.size wx.heap.size c x vc vx) ∧ Hid (Below w.heap.size w wx))
  case first =>
    go_wp2_with fail
    have hs2 : w1.heap.size + 1 + 1 + 1 + 1 + 1 ≤ w2.heap.size := by have := F1.kept.size; rw [hF5.size] at this; exact this
    refine (fill_any ax lx cx (w1.heap.size + 1 + 1) (w1.heap.size + 1 + 1 + 1 + 1) w.heap.size esX _ (by omega) (by omega) (by omega) (by omega) (by have := hB1.size; omega) (by have := hB1.size; omega) (HX.out.1.below hB2) nilV (fill2 hF5 F1)).mono ?_
    rintro e w3 ⟨rfl, vx, F2⟩
    rw [← HX.out.2] at F2
    have HBS : Hid (Base w3 w1.heap.size w3.heap.size c x vc vx) := base_both hF5 F1 F2
    have HB3 : Hid (Below w.heap.size w w3) := hB2.trans ((F2.kept.below (A := w1.heap.size) (by omega) (by omega) (by omega)).mono hB1.size)
    go_wp2_with fail
    go_meet
    case rel => exact ⟨vx, HBS.out, HB3.out⟩
  case rest =>
    obtain ⟨vx, HBS, HB3⟩ := hcut
    rename_i hkk
    refine hkk _ _ ?_
    exact m1 ao lo co raw useRaw pick ac ax lc cc lx cx false w1.heap.size c x vc vx LO w wc hcok hxok hraw0 hraw1 hpick hlo HOut.out HCo.out (.inl rfl) HBS.out HB3.out _ _ _ _ _ _ _ _ _ _ _ _ _ _ _ _ _ _ _ _ _ _ _ _ _ _ _ _ _ _ _ _ _ _ _ _ _ _ _ _ _ _ _ _ _ _ _ _ _ _ _ _ _ _ _ _ _ _ _ _ _ _ _ _ _ _ _ _ _ _ _ _ _ _ _ _ _ _ _ _ _ _ _ _ _ _ _ _ _ _ _ _ _ _ _ _ _ _ _ _ _ _ _ _ _ _ _ _ _ _ _ _ _ _ _ _ _ _ _ _ _ _ _ _ _ _ _ _ _ _ _ _ _ _ _ _ _ _ _ _ _ _ _ _ _ _ _ _ _ _ _ _ _ _ _ _ _ _ _ _ _ _ _ _ _ _ _ _ _ _ _ _ _ _ _ _ _ _ _ _ _ _ _ _ _ _ _ _ _ _ _ _ _ _ _ _ _ _ _ _ _ _ _ _ _ _ _ _ _ _ _ _ _ _ _ _ _ _ _ _ _ _ _ _ _ _ _ _ _ _ _ _ _
set_option maxRecDepth 100000 in
set_option maxHeartbeats 4000000 in
theorem law_nil (ao : Option Addr) (lo co : Nat) (raw : Int) (useRaw : Bool) (pick : Nat) (ac ax : Option Addr) (lc cc lx cx : Nat) (esC : List Ent) (w : World)
    (hraw0 : -2147483648 ≤ raw) (hraw1 : raw ≤ 2147483647) (hpick : pick < 256) (LO : List Int) (hOut : OutRow w w.heap.size ao lo LO) (hco : ao = none → co = 0) (hlo : lo ≤ 1048576) (hlcx : lc + lx ≤ 1048576) (hC : EntRow w w.heap.size ac lc esC) (hpC : ∀ e ∈ esC, 0 ≤ e.1) :
    Calls Yba.prog 3 #[.slice ao lo co, .int .i32 raw, .bool useRaw, .int .u8 (pick : Int), .slice ac lc cc, .slice ax lx cx, .bool true] w fun e w' => e = .returned (.bool true) ∧ Below w.heap.size w w' := by
  have hd : decide ((1048576 : Int) < (lo : Int)) = false := decide_eq_false (by omega)
  obtain ⟨c, hc⟩ : ∃ c, c = fillT tab0 esC := ⟨_, rfl⟩
  have hcok : c.ok := by rw [hc]; exact fillT_ok tab0_ok esC hpC
  obtain ⟨x, hx⟩ : ∃ x, x = tab0 := ⟨_, rfl⟩
  obtain ⟨vx, hvx⟩ : ∃ vx, vx = nilV := ⟨_, rfl⟩
  have hxok : x.ok := by rw [hx]; exact tab0_ok
  have HX : Hid (x = tab0 ∧ vx = nilV) := ⟨hx, hvx⟩
  have HC : Hid (EntRow w w.heap.size ac lc esC ∧ c = fillT tab0 esC) := ⟨hC, hc⟩
  have HOut := hide2 hOut
  have HCo := hide2 hco
  clear hc hx hC hpC hOut hco hvx
  go_enter Yba.func3, Yba.ntmps3
  go_wp2_with (first | (go_at_call 5; refine (alpha_any _).mono ?_; rintro e w1 ⟨rfl, hB1⟩; rw [alphaV_lit]) | fail)
  have h5 := five_blocks w1 (.cells alphaV 24) (.cells (hasA tab0) 26) (.cells (hasA tab0) 26) (.cells (idxA nilV) 28) (.cells (idxA nilV) 28)
  have hF5 := (⟨h5.1, h5.2.1, h5.2.2.1, h5.2.2.2.1, h5.2.2.2.2.1, h5.2.2.2.2.2⟩ : Five _ w1.heap.size)
  have hBW : Below w.heap.size w (((((w1.alloc (.cells alphaV 24)).alloc (.cells (hasA tab0) 26)).alloc (.cells (hasA tab0) 26)).alloc (.cells (idxA nilV) 28)).alloc (.cells (idxA nilV) 28)) := by
    have := hB1.size
    exact ((((hB1.alloc (by omega) _).alloc (by simp only [World.size_alloc]; omega) _).alloc (by simp only [World.size_alloc]; omega) _).alloc (by simp only [World.size_alloc]; omega) _).alloc (by simp only [World.size_alloc]; omega) _
  refine (fill_any ac lc cc (w1.heap.size + 1) (w1.heap.size + 1 + 1 + 1) w.heap.size esC _ (by omega) (by simp only [World.size_alloc]; omega) (by simp only [World.size_alloc]; omega) (by omega) (by have := hB1.size; omega) (by have := hB1.size; omega) (HC.out.1.below hBW) nilV hF5.fill1).mono ?_
  rintro e w2 ⟨rfl, vc, F1⟩
  rw [← HC.out.2] at F1
  have hBA : Below w1.heap.size _ w2 := F1.kept.below (by omega) (by omega) (by rw [hF5.size]; omega)
  have hB2 : Below w.heap.size w w2 := hBW.trans (hBA.mono hB1.size)
  go_upto_if 57 with fail
  go_cut [] from 42 (fun wx => ∃ vx, Hid (Base wx w1.heap.size wx.heap.size c x vc vx) ∧ Hid (Below w.heap.size w wx))
  case first =>
    have HBS : Hid (Base w2 w1.heap.size w2.heap.size c x vc vx) := (by rw [HX.out.1, HX.out.2]; exact base_nil hF5 F1)
    have HB3 := hide2 hB2
    go_wp2
    go_meet
    case rel => exact ⟨vx, HBS.out, HB3.out⟩
  case rest =>
    obtain ⟨vx, HBS, HB3⟩ := hcut
    rename_i hkk
    refine hkk _ _ ?_
    exact m1 ao lo co raw useRaw pick ac ax lc cc lx cx true w1.heap.size c x vc vx LO w wc hcok hxok hraw0 hraw1 hpick hlo HOut.out HCo.out (.inr ⟨rfl, HX.out.1⟩) HBS.out HB3.out _ _ _ _ _ _ _ _ _ _ _ _ _ _ _ _ _ _ _ _ _ _ _ _ _ _ _ _ _ _ _ _ _ _ _ _ _ _ _ _ _ _ _ _ _ _ _ _ _ _ _ _ _ _ _ _ _ _ _ _ _ _ _ _ _ _ _ _ _ _ _ _ _ _ _ _ _ _ _ _ _ _ _ _ _ _ _ _ _ _ _ _ _ _ _ _ _ _ _ _ _ _ _ _ _ _ _ _ _ _ _ _ _ _ _ _ _ _ _ _ _ _ _ _ _ _ _ _ _ _ _ _ _ _ _ _ _ _ _ _ _ _ _ _ _ _ _ _ _ _ _ _ _ _ _ _ _ _ _ _ _ _ _ _ _ _ _ _ _ _ _ _ _ _ _ _ _ _ _ _ _ _ _ _ _ _ _ _ _ _ _ _ _ _ _ _ _ _ _ _ _ _ _ _ _ _ _ _ _ _ _ _ _ _ _ _ _ _ _ _ _ _ _ _ _ _ _ _ _ _ _ _ _
set_option maxRecDepth 100000 in
theorem law_big (ao : Option Addr) (lo co : Nat) (raw : Int) (useRaw : Bool) (pick : Nat) (ac ax : Option Addr) (lc cc lx cx : Nat) (nil : Bool) (w : World) (hlo : 1048576 < lo) :
    Calls Yba.prog 3 #[.slice ao lo co, .int .i32 raw, .bool useRaw, .int .u8 (pick : Int), .slice ac lc cc, .slice ax lx cx, .bool nil] w fun e w' => e = .returned (.bool true) ∧ Below w.heap.size w w' := by
  have hd : decide ((1048576 : Int) < (lo : Int)) = true := decide_eq_true (by omega)
  go_enter Yba.func3, Yba.ntmps3
  go_wp2
  go_ret
  exact ⟨rfl, Below.refl _ _⟩
set_option maxRecDepth 100000 in
theorem law_many (ao : Option Addr) (lo co : Nat) (raw : Int) (useRaw : Bool) (pick : Nat) (ac ax : Option Addr) (lc cc lx cx : Nat) (nil : Bool) (w : World) (hlo : lo ≤ 1048576) (hsum : 1048576 < lc + lx) (h1 : lc ≤ 4611686018427387903) (h2 : lx ≤ 4611686018427387903) :
    Calls Yba.prog 3 #[.slice ao lo co, .int .i32 raw, .bool useRaw, .int .u8 (pick : Int), .slice ac lc cc, .slice ax lx cx, .bool nil] w fun e w' => e = .returned (.bool true) ∧ Below w.heap.size w w' := by
  have hd : decide ((1048576 : Int) < (lo : Int)) = false := decide_eq_false (by omega)
  have h3 : (lc : Int) + lx ≤ 9223372036854775807 := by omega
  have hd2 : decide ((1048576 : Int) < (lc : Int) + (lx : Int)) = true := decide_eq_true (by omega)
  go_enter Yba.func3, Yba.ntmps3
  go_wp2
  go_ret
  exact ⟨rfl, Below.refl _ _⟩
end Go.Proofs.Ybulkdjhw.A
