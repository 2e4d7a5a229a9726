import Derived.Test.YbulkdjhiDoorRows
import Derived.WalkKit
import Derived.WalkSpells
import Derived.BigQuiet
import Derived.Deep.QuietTactic
namespace Go.Proofs.YbulkdjhiDoor
open Go.RowKit
set_option linter.unusedVariables false
def tabG (k : Nat) : Int := ([0, 0, 0, 1, 1, 1, 2, 2, 2] : List Int).getD k 0
def tabF (k : Nat) : Int := ([1, 64, 128, 1, 75, 187, 1, 62, 162] : List Int).getD k 0
def tabLo (k : Nat) : Int := ([1, 64, 576, 8700, 17000, 130000, 260000, 510000, 1600000] : List Int).getD k 0
def tabHi (k : Nat) : Int := ([63, 568, 8640, 16000, 128000, 256000, 500000, 1500000, 10000000] : List Int).getD k 0
def tabSt (k : Nat) : Int := ([1, 8, 64, 100, 1000, 2000, 4000, 10000, 100000] : List Int).getD k 0
def tabN (k : Nat) : Int := (tabHi k - tabLo k) / tabSt k

def rr (k : Nat) : List Value := [.int .i64 (tabG k), .int .u8 (tabF k), .int .u64 (tabLo k), .int .u64 (tabHi k), .int .u64 (tabSt k)]
def cellsRR : Array Value := (rr 0 ++ rr 1 ++ rr 2 ++ rr 3 ++ rr 4 ++ rr 5 ++ rr 6 ++ rr 7 ++ rr 8).toArray

theorem below9 {p : Nat → Prop} (h : ∀ k : Fin 9, p k.val) (k : Nat) (hk : k < 9) : p k := h ⟨k, hk⟩

theorem tab_bd (k : Nat) (hk : k < 9) : (0 ≤ tabG k ∧ tabG k ≤ 2) ∧ (1 ≤ tabF k ∧ tabF k ≤ 255) ∧ (1 ≤ tabLo k ∧ tabLo k ≤ tabHi k ∧ tabHi k ≤ 10000000) ∧ (1 ≤ tabSt k ∧ tabSt k ≤ 100000) ∧ (0 ≤ tabN k ∧ tabN k ≤ 255) :=
  below9 (p := fun k => (0 ≤ tabG k ∧ tabG k ≤ 2) ∧ (1 ≤ tabF k ∧ tabF k ≤ 255) ∧ (1 ≤ tabLo k ∧ tabLo k ≤ tabHi k ∧ tabHi k ≤ 10000000) ∧ (1 ≤ tabSt k ∧ tabSt k ≤ 100000) ∧ (0 ≤ tabN k ∧ tabN k ≤ 255)) (by decide +kernel) k hk

def hit (g c : Int) (k : Nat) : Bool := tabG k == g && decide (tabF k ≤ c) && decide (c - tabF k ≤ tabN k)
def lookFrom (g c : Int) : Nat → Nat → Option Int
  | 0, _ => none
  | n + 1, k => if hit g c k then some (tabLo k + (c - tabF k) * tabSt k) else lookFrom g c n (k + 1)
def look (g c : Int) : Option Int := lookFrom g c 9 0

theorem look_miss {g c : Int} {k : Nat} (hk : k < 9) (h : hit g c k = false) : lookFrom g c (9 - (k + 1)) (k + 1) = lookFrom g c (9 - k) k := by
  have hs : 9 - k = (9 - (k + 1)) + 1 := by omega
  rw [hs, lookFrom, h]; rfl
theorem look_hit {g c : Int} {k : Nat} (hk : k < 9) (h : hit g c k = true) : lookFrom g c (9 - k) k = some (tabLo k + (c - tabF k) * tabSt k) := by
  have hs : 9 - k = (9 - (k + 1)) + 1 := by omega
  rw [hs, lookFrom, h]; rfl

theorem idx_at (k : Nat) (hk : k < 9) : ∀ w, (Instr.index 35 (.agg cellsRR) (.int .i64 (k : Int))).run Ybad.prog w = .ok (.agg #[.int .i64 (tabG k), .int .u8 (tabF k), .int .u64 (tabLo k), .int .u64 (tabHi k), .int .u64 (tabSt k)]) w := by
  match k, hk with
  | 0, _ => exact fun w => by kernel_rfl
  | 1, _ => exact fun w => by kernel_rfl
  | 2, _ => exact fun w => by kernel_rfl
  | 3, _ => exact fun w => by kernel_rfl
  | 4, _ => exact fun w => by kernel_rfl
  | 5, _ => exact fun w => by kernel_rfl
  | 6, _ => exact fun w => by kernel_rfl
  | 7, _ => exact fun w => by kernel_rfl
  | 8, _ => exact fun w => by kernel_rfl
theorem info35 : (Ybad.prog.info? 35).map (·.size) = some cellsRR.size := by kernel_rfl

set_option maxHeartbeats 400000 in
theorem range_any (g c : Int) (w : World) (t : TypeId) (fr : Nat × Nat) (hb : w.heap[0]? = some (.cells cellsRR t fr)) (hc0 : 0 ≤ c) (hc1 : c ≤ 255) :
    Calls Ybad.prog 8 #[.int .i64 g, .int .u8 c] w fun e w' => e = .returned (.tuple #[.int .u64 ((look g c).getD 0), .bool (look g c).isSome]) ∧ Below w.heap.size w w' := by
  go_enter Ybad.func8, Ybad.ntmps8
  go_wp2_with (refine wpList_load_row rfl 35 _ rfl 0 rfl t cellsRR fr _ hb Ybad.underlying35 rfl info35 ?_)
  go_loopw [9] (fun i wr => ∃ k : Nat, k ≤ 9 ∧ i = .int .i64 k ∧ Below w.heap.size w wr ∧ Hid (lookFrom g c (9 - k) k = look g c)) (fun i _ => 9 - (intOf i).toNat)
  case atStart => exact ⟨0, by omega, rfl, Below.refl _ _, rfl⟩
  case round =>
    obtain ⟨k, hk, rfl, hB, HL⟩ := hrel
    by_cases hlt : k < 9
    · have hix := idx_at k hlt
      obtain ⟨hg, hf, hlo, hst, hn⟩ := tab_bd k hlt
      have hm : 0 ≤ c - tabF k → 0 ≤ (c - tabF k) * tabSt k ∧ (c - tabF k) * tabSt k ≤ 25500000 := fun h =>
        ⟨Int.mul_nonneg h (by omega), Int.le_trans (Int.mul_le_mul (show c - tabF k ≤ 255 by omega) (show tabSt k ≤ 100000 by omega) (by omega) (by omega)) (by omega)⟩
      have hdv : 0 ≤ (tabHi k - tabLo k) / tabSt k ∧ (tabHi k - tabLo k) / tabSt k ≤ 255 := hn
      cases h1 : (tabG k == g) with
      | false =>
        have HM : Hid (lookFrom g c (9 - (k + 1)) (k + 1) = look g c) := (look_miss hlt (by rw [hit, h1]; rfl)).trans HL.out
        go_wp2
        go_quiet (fail)
        go_wp2
        go_roundw
        case rel => exact ⟨k + 1, by omega, by go_num, ((hB.alloc hB.size _).trans ⟨rfl, rfl, rfl, Nat.le_refl _, fun _ _ => rfl⟩), HM⟩
        case measure => simp [intOf]; omega
      | true =>
        cases h2 : decide (tabF k ≤ c) with
        | false =>
          have HM : Hid (lookFrom g c (9 - (k + 1)) (k + 1) = look g c) := (look_miss hlt (by rw [hit, h1, h2]; rfl)).trans HL.out
          go_wp2
          go_quiet (fail)
          go_wp2
          go_roundw
          case rel => exact ⟨k + 1, by omega, by go_num, ((hB.alloc hB.size _).trans ⟨rfl, rfl, rfl, Nat.le_refl _, fun _ _ => rfl⟩), HM⟩
          case measure => simp [intOf]; omega
        | true =>
          have h2' : tabF k ≤ c := of_decide_eq_true h2
          have hm2 := hm (by omega)
          clear hm
          by_cases h3 : c - tabF k ≤ (tabHi k - tabLo k) / tabSt k
          · have HM : Hid (look g c = some (tabLo k + (c - tabF k) * tabSt k)) := HL.out.symm.trans (look_hit hlt (by rw [hit, h1, h2, tabN, decide_eq_true h3]; rfl))
            clear h2
            go_wp2
            go_quiet (fail)
            go_wp2
            go_ret2
            exact ⟨by rw [HM.out]; rfl, (hB.alloc hB.size _).trans ⟨rfl, rfl, rfl, Nat.le_refl _, fun _ _ => rfl⟩⟩
          · have h3' : decide (c - tabF k ≤ (tabHi k - tabLo k) / tabSt k) = false := decide_eq_false h3
            have HM : Hid (lookFrom g c (9 - (k + 1)) (k + 1) = look g c) := (look_miss hlt (by rw [hit, h1, h2, tabN, h3']; rfl)).trans HL.out
            clear h2 h3
            go_wp2
            go_quiet (fail)
            go_wp2
            go_roundw
            case rel => exact ⟨k + 1, by omega, by go_num, ((hB.alloc hB.size _).trans ⟨rfl, rfl, rfl, Nat.le_refl _, fun _ _ => rfl⟩), HM⟩
            case measure => simp [intOf]; omega
    · obtain rfl : k = 9 := by omega
      go_wp2
      go_ret2
      exact ⟨by rw [← HL.out]; rfl, hB⟩
end Go.Proofs.YbulkdjhiDoor
