import Derived.Test.YbulkdjhiDoorLook
import Derived.WalkKit
import Derived.WalkSpells
import Derived.BigQuiet
import Derived.Deep.QuietTactic
namespace Go.Proofs.YbulkdjhiDoor
open Go.RowKit
set_option linter.unusedVariables false

def rate0 (c : Int) : Option Int := if 1 ≤ c ∧ c ≤ 63 then some c else if 64 ≤ c ∧ c ≤ 127 then some (64 + (c - 64) * 8) else if 128 ≤ c ∧ c ≤ 254 then some (576 + (c - 128) * 64) else none
def rate1 (c : Int) : Option Int := if 1 ≤ c ∧ c ≤ 74 then some (8700 + (c - 1) * 100) else if 75 ≤ c ∧ c ≤ 186 then some (17000 + (c - 75) * 1000) else if 187 ≤ c ∧ c ≤ 250 then some (130000 + (c - 187) * 2000) else none
def rate2 (c : Int) : Option Int := if 1 ≤ c ∧ c ≤ 61 then some (260000 + (c - 1) * 4000) else if 62 ≤ c ∧ c ≤ 161 then some (510000 + (c - 62) * 10000) else if 162 ≤ c ∧ c ≤ 246 then some (1600000 + (c - 162) * 100000) else none
theorem below256 {p : Int → Prop} (h : ∀ k : Fin 256, p (k.val : Int)) (c : Int) (h0 : 0 ≤ c) (h1 : c ≤ 255) : p c := by
  have := h ⟨c.toNat, by omega⟩
  have e : ((c.toNat : Nat) : Int) = c := by omega
  simpa [e] using this
theorem look0 (c : Int) (h0 : 0 ≤ c) (h1 : c ≤ 255) : look 0 c = rate0 c := below256 (p := fun c => look 0 c = rate0 c) (by decide +kernel) c h0 h1
theorem look1 (c : Int) (h0 : 0 ≤ c) (h1 : c ≤ 255) : look 1 c = rate1 c := below256 (p := fun c => look 1 c = rate1 c) (by decide +kernel) c h0 h1
theorem look2 (c : Int) (h0 : 0 ≤ c) (h1 : c ≤ 255) : look 2 c = rate2 c := below256 (p := fun c => look 2 c = rate2 c) (by decide +kernel) c h0 h1

theorem ret_pair {a b : Int} {p q : Bool} (h1 : a = b) (h2 : p = q) : Ending.returned (.tuple #[.int .u64 a, .bool p]) = .returned (.tuple #[.int .u64 b, .bool q]) := by rw [h1, h2]
theorem ret_some {o : Option Int} {a : Int} (h : o = some a) : Ending.returned (.tuple #[.int .u64 a, .bool true]) = .returned (.tuple #[.int .u64 (o.getD 0), .bool o.isSome]) := by rw [h]; rfl
theorem ret_none {o : Option Int} (h : o = none) : Ending.returned (.tuple #[.int .u64 0, .bool false]) = .returned (.tuple #[.int .u64 (o.getD 0), .bool o.isSome]) := by rw [h]; rfl

theorem rate_0 (c : Int) (w : World) (h0 : 0 ≤ c) (h1 : c ≤ 255) :
    Calls Ybad.prog 6 #[.int .i64 0, .int .u8 c] w fun e w' => e = .returned (.tuple #[.int .u64 ((look 0 c).getD 0), .bool (look 0 c).isSome]) ∧ w' = w := by
  have HL : Hid (look 0 c = rate0 c) := look0 c h0 h1
  rcases (show (1 ≤ c ∧ c ≤ 63) ∨ (64 ≤ c ∧ c ≤ 127) ∨ (128 ≤ c ∧ c ≤ 254) ∨ c = 0 ∨ c = 255 by omega) with h | h | h | rfl | rfl
  · go_enter Ybad.func6, Ybad.ntmps6
    go_wp2
    go_ret2
    exact ⟨ret_some (by rw [HL.out, rate0, if_pos h]), rfl⟩
  · go_enter Ybad.func6, Ybad.ntmps6
    go_wp2
    go_ret2
    exact ⟨ret_some (by rw [HL.out, rate0, if_neg (by omega), if_pos h]), rfl⟩
  · go_enter Ybad.func6, Ybad.ntmps6
    go_wp2
    go_ret2
    exact ⟨ret_some (by rw [HL.out, rate0, if_neg (by omega), if_neg (by omega), if_pos h]), rfl⟩
  · go_enter Ybad.func6, Ybad.ntmps6
    go_wp2
    go_ret2
    exact ⟨ret_none (by rw [HL.out]; rfl), rfl⟩
  · go_enter Ybad.func6, Ybad.ntmps6
    go_wp2
    go_ret2
    exact ⟨ret_none (by rw [HL.out]; rfl), rfl⟩
theorem rate_1 (c : Int) (w : World) (h0 : 0 ≤ c) (h1 : c ≤ 255) :
    Calls Ybad.prog 6 #[.int .i64 1, .int .u8 c] w fun e w' => e = .returned (.tuple #[.int .u64 ((look 1 c).getD 0), .bool (look 1 c).isSome]) ∧ w' = w := by
  have HL : Hid (look 1 c = rate1 c) := look1 c h0 h1
  rcases (show (1 ≤ c ∧ c ≤ 74) ∨ (75 ≤ c ∧ c ≤ 186) ∨ (187 ≤ c ∧ c ≤ 250) ∨ c = 0 ∨ 251 ≤ c by omega) with h | h | h | rfl | h
  · go_enter Ybad.func6, Ybad.ntmps6
    go_wp2
    go_ret2
    exact ⟨ret_some (by rw [HL.out, rate1, if_pos h]), rfl⟩
  · go_enter Ybad.func6, Ybad.ntmps6
    go_wp2
    go_ret2
    exact ⟨ret_some (by rw [HL.out, rate1, if_neg (by omega), if_pos h]), rfl⟩
  · go_enter Ybad.func6, Ybad.ntmps6
    go_wp2
    go_ret2
    exact ⟨ret_some (by rw [HL.out, rate1, if_neg (by omega), if_neg (by omega), if_pos h]), rfl⟩
  · go_enter Ybad.func6, Ybad.ntmps6
    go_wp2
    go_ret2
    exact ⟨ret_none (by rw [HL.out]; rfl), rfl⟩
  · go_enter Ybad.func6, Ybad.ntmps6
    go_wp2
    go_ret2
    exact ⟨ret_none (by rw [HL.out, rate1, if_neg (by omega), if_neg (by omega), if_neg (by omega)]), rfl⟩
theorem rate_2 (c : Int) (w : World) (h0 : 0 ≤ c) (h1 : c ≤ 255) :
    Calls Ybad.prog 6 #[.int .i64 2, .int .u8 c] w fun e w' => e = .returned (.tuple #[.int .u64 ((look 2 c).getD 0), .bool (look 2 c).isSome]) ∧ w' = w := by
  have HL : Hid (look 2 c = rate2 c) := look2 c h0 h1
  rcases (show (1 ≤ c ∧ c ≤ 61) ∨ (62 ≤ c ∧ c ≤ 161) ∨ (162 ≤ c ∧ c ≤ 246) ∨ c = 0 ∨ 247 ≤ c by omega) with h | h | h | rfl | h
  · go_enter Ybad.func6, Ybad.ntmps6
    go_wp2
    go_ret2
    exact ⟨ret_some (by rw [HL.out, rate2, if_pos h]), rfl⟩
  · go_enter Ybad.func6, Ybad.ntmps6
    go_wp2
    go_ret2
    exact ⟨ret_some (by rw [HL.out, rate2, if_neg (by omega), if_pos h]), rfl⟩
  · go_enter Ybad.func6, Ybad.ntmps6
    go_wp2
    go_ret2
    exact ⟨ret_some (by rw [HL.out, rate2, if_neg (by omega), if_neg (by omega), if_pos h]), rfl⟩
  · go_enter Ybad.func6, Ybad.ntmps6
    go_wp2
    go_ret2
    exact ⟨ret_none (by rw [HL.out]; rfl), rfl⟩
  · go_enter Ybad.func6, Ybad.ntmps6
    go_wp2
    go_ret2
    exact ⟨ret_none (by rw [HL.out, rate2, if_neg (by omega), if_neg (by omega), if_neg (by omega)]), rfl⟩
end Go.Proofs.YbulkdjhiDoor
