import Derived.Test.YbulkdjlcGet
import Derived.WalkKit
import Derived.WalkSpells
import Derived.BigQuiet
import Derived.Deep.QuietTactic
import Derived.Deep.DeepCutAuto
import Derived.Deep.CutBlock

namespace Go.Proofs.Ybulkdjlc.C
open Go.RowKit Go.MuLone
set_option linter.unusedVariables false
def firstReg : Code → Option Nat
  | .region id _ _ => some id
  | .seq a _ => firstReg a
  | .block _ c => firstReg c
  | .loop c => firstReg c
  | .scope c => firstReg c
  | _ => none
def isReg (k : Nat) (c : Code) : Bool := match firstReg c with
  | some j => Nat.beq j k
  | none => false
/-- The statements from that with region k on. -/
def fromReg (k : Nat) : Code → Code
  | .seq a b => match isReg k a with
    | true => .seq a b
    | false => fromReg k b
  | c => c
/-- The place in the list's order, where the h-th element has been moved to the head (h < 0: none). -/
def ordH (h : Int) (k : Nat) : Nat := if h < 0 then k else if k = 0 then h.toNat else if (k : Int) ≤ h then k - 1 else k
theorem ordH_lt {h : Int} {k n : Nat} (hk : k < n) (hh : h < n) : ordH h k < n := by
  unfold ordH
  split
  · exact hk
  · split
    · omega
    · split <;> omega
abbrev ptr (b : Nat) : Value := .pointer (some ⟨b, 0, none⟩)
abbrev root (cb : Nat) : Value := .pointer (some ⟨cb, 3, none⟩)
/-- What the checks read, block by block. -/
structure Fin (w : World) (cb B0 el rl n : Nat) (h : Int) (us : Nat → Int) (ua : Option Addr) : Prop where
  hn : n ≤ 4096
  hh : -1 ≤ h ∧ h < n
  hcb : cb < B0
  hel : el < B0
  hrl : rl < B0
  hne : el ≠ cb ∧ rl ≠ cb
  cc : ∃ cc, w.heap[cb]? = some (.cells cc 39 (0, 0)) ∧ cc[7]? = some (.int .i64 n) ∧ (0 < n → cc[3]? = some (ptr (B0 + 4 * ordH h 0 + 3)))
  els : ∃ ce, w.heap[el]? = some (.cells ce 32 (0, 0)) ∧ ∀ j, j < n → ce[j]? = some (ptr (B0 + 4 * j + 3))
  rls : ∃ cr, w.heap[rl]? = some (.cells cr 42 (0, 0)) ∧ ∀ j, j < n → cr[j]? = some (ptr (B0 + 4 * j + 1))
  uq : ∀ j, j < n → ∃ ub, ua = some ⟨ub, 0, none⟩ ∧ w.cell? ⟨ub, j, none⟩ = some (.int .i64 (us j))
  E : ∀ k, k < n → ∃ pv, w.heap[B0 + 4 * ordH h k + 3]? = some (.cells #[if k + 1 < n then ptr (B0 + 4 * ordH h (k + 1) + 3) else root cb, pv, root cb, .iface 48 (ptr (B0 + 4 * ordH h k + 2))] 35 (0, 0))
  Q : ∀ j, j < n → w.heap[B0 + 4 * j + 2]? = some (.cells #[.int .i64 (us j), ptr (B0 + 4 * j + 1)] 50 (0, 0))
  R : ∀ j, j < n → w.heap[B0 + 4 * j + 1]? = some (.cells #[.slice none 0 0, .slice (some ⟨B0 + 4 * j, 0, none⟩) 1 1] 46 (0, 0))
  S : ∀ j, j < n → w.heap[B0 + 4 * j]? = some (.cells #[.int .i64 j] 3 (0, 0))
theorem below_drewN {B : Nat} {w w' : World} (h : Below B w w') (n : Nat) : Below B w (w'.drewN n) := ⟨h.os, h.tape, h.output, h.size, h.block⟩
theorem drewN_drewN (w : World) (m n : Nat) : (w.drewN m).drewN n = w.drewN (m + n) := World.drewN_drewN w m n
theorem front_any (cb n fb : Nat) (cc : Array Value) (w : World) (hC : w.heap[cb]? = some (.cells cc 39 (0, 0))) (c7 : w.cell? ⟨cb, 7, none⟩ = some (.int .i64 n)) (h3 : 0 < n → cc[3]? = some (ptr fb)) :
    Calls Yba.prog 9 #[.pointer (some ⟨cb, 3, none⟩)] w fun e w' => ∃ v, e = .returned v ∧ Hid (v = if 0 < n then ptr fb else .pointer none) ∧ w' = w := by
  by_cases h : 0 < n
  · rw [if_pos h]; exact (front_some cb n _ w c7 (cell_at hC (h3 h)) h).mono (fun e w' h => ⟨_, h.1, rfl, h.2⟩)
  · rw [if_neg h]; obtain rfl : n = 0 := by omega
    exact (front_nil cb w c7).mono (fun e w' h => ⟨_, h.1, rfl, h.2⟩)
end Go.Proofs.Ybulkdjlc.C
