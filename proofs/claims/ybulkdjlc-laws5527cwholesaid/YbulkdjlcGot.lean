import Derived.Test.YbulkdjlcMoved
import Derived.WalkKit
namespace Go.Proofs.Ybulkdjlc.C
open Go.RowKit
set_option linter.unusedVariables false
/-- get, where nothing is held at the key. -/
theorem got_miss {w0 w : World} {cb M B0 el rl n : Nat} {sz : Int} {us : Nat → Int} {ua : Option Addr} {nilI : Value} (b : Bu w0 w cb M B0 el rl n sz us ua nilI n) (hub : ∀ ub, ua = some ⟨ub, 0, none⟩ → ub < M) (k : Int) (hk : (Lit.int .i64 k).wf = true) (hm : ∀ j, j < n → us j ≠ k) :
    Calls Yba.prog 5 #[.pointer (some ⟨cb, 0, none⟩), .int .i64 k] w fun e w' => e = .returned (.pointer none) ∧ Got w0 w' cb M B0 el rl n sz 0 us ua (-1) := by
  have k1 := b.hM
  have hmp : MapB (w.setCell ⟨cb, 0, none⟩ (.int .i32 1)) M us (fun j => ptr (B0 + 4 * j + 3)) n := b.mp.keep (Below.heap_setCell _ ⟨cb, 0, none⟩ _ M (show M ≠ cb by omega))
  refine (get_miss cb M k w (cell_at b.cC rfl) (cell_at b.cC rfl) (frozen_of_row _ _ _ _ _ b.cC) (hmp.miss_ok hm hk)).mono ?_
  rintro e w' ⟨rfl, rfl⟩
  exact ⟨rfl, ((got_id b (-1) (.inl rfl) (fun ub h => by have := hub ub h; omega)).lock 1).lock 0⟩
/-- get of the h-th. -/
theorem got_hit {w0 w : World} {cb M B0 el rl n : Nat} {sz : Int} {us : Nat → Int} {ua : Option Addr} {nilI : Value} (b : Bu w0 w cb M B0 el rl n sz us ua nilI n) (hub : ∀ ub, ua = some ⟨ub, 0, none⟩ → ub < M) (h : Nat) (hh : h < n) :
    Calls Yba.prog 5 #[.pointer (some ⟨cb, 0, none⟩), .int .i64 (us h)] w fun e w' => e = .returned (ptr (B0 + 4 * h + 1)) ∧ Got w0 w' cb M B0 el rl n sz 0 us ua h := by
  have k1 := b.hM
  have k2 := b.hcb
  have k3 := b.hel
  have k4 := b.hrl
  obtain ⟨w1, hw1⟩ : ∃ w1, w1 = w.setCell ⟨cb, 0, none⟩ (.int .i32 1) := ⟨_, rfl⟩
  have oth : ∀ k, k ≠ cb → w1.heap[k]? = w.heap[k]? := fun k hk => by rw [hw1]; exact Below.heap_setCell w ⟨cb, 0, none⟩ _ k hk
  have hmp : MapB w1 M us (fun j => ptr (B0 + 4 * j + 3)) n := b.mp.keep (oth M (by omega))
  have hC : w1.heap[cb]? = some (.cells #[.int .i32 1, .int .u32 0, .int .i64 sz, if n = 0 then .pointer none else ptr (B0 + 3), if n = 0 then .pointer none else ptr (B0 + 4 * (n - 1) + 3), .pointer none, nilI, .int .i64 n, .map (some M)] 39 (0, 0)) := by rw [hw1]; exact same_step _ b.cC
  rw [if_neg (by omega), if_neg (by omega)] at hC
  have E : ∀ j, j < n → w1.heap[B0 + 4 * j + 3]? = some (.cells #[if j + 1 < n then ptr (B0 + 4 * (j + 1) + 3) else root cb, if j = 0 then root cb else ptr (B0 + 4 * (j - 1) + 3), root cb, .iface 48 (ptr (B0 + 4 * j + 2))] 35 (0, 0)) := fun j hj => (oth _ (by omega)).trans (b.E j hj)
  have F0 := E 0 (by omega)
  simp only [Nat.mul_zero, Nat.add_zero] at F0
  obtain ⟨W, hG, hm⟩ : ∃ W, Got w0 W cb M B0 el rl n sz 1 us ua h ∧ Calls Yba.prog 14 #[.pointer (some ⟨cb, 3, none⟩), .pointer (some ⟨B0 + 4 * h + 3, 0, none⟩)] w1 fun e w' => e = .returned (.tuple #[]) ∧ w' = W := by
    by_cases h0 : h = 0
    · subst h0
      refine ⟨w1, ?_, mtf_first cb _ _ _ w1 (E 0 hh) hC rfl rfl⟩
      rw [hw1]
      exact (got_id b 0 (.inr ⟨rfl, hh⟩) (fun ub h => by have := hub ub h; omega)).lock 1
    · have hp := E (h - 1) (by omega)
      rw [if_pos (by omega), show h - 1 + 1 = h by omega] at hp
      have he := E h hh
      rw [if_neg h0] at he
      have hq := eql_other w1 (tp := 32) (a := ⟨B0 + 4 * h + 3, 0, none⟩) (b := ⟨cb, 3, none⟩) Yba.underlying32 info35 (by omega) (fun e => by have := congrArg Addr.block e; simp only at this; omega) he hC
      by_cases hl : h + 1 < n
      · have hx := E (h + 1) hl
        rw [if_neg (show ¬ h + 1 = 0 by omega), show h + 1 - 1 = h by omega] at hx
        rw [if_pos hl] at he
        refine ⟨_, got_moved b hub h (by omega) hh _ _ (.inl ⟨hl, rfl, rfl⟩), ?_⟩
        rw [← hw1]
        refine mtf_more cb _ (B0 + 3) _ _ _ _ w1 (by omega) he hC F0 rfl rfl ?_
        exact move_mid cb (B0 + 4 * h + 3) (B0 + 4 * (h - 1) + 3) (B0 + 4 * (h + 1) + 3) (B0 + 3) _ (.pointer none) w1 (by omega) (by omega) (by omega) (by omega) (by omega) (by omega) (by omega) (by omega) (by omega) (by omega) (by omega) (by omega) (by omega) (by omega) (by omega) (by omega) (by omega) (by omega) hq
          (cell_at he rfl) (cell_at he rfl) (cell_at hp rfl) (cell_at hx rfl) (cell_at hC rfl) (cell_at F0 rfl) (frozen_of_row _ _ _ _ _ he) (frozen_of_row _ _ _ _ _ he) (frozen_of_row _ _ _ _ _ hp) (frozen_of_row _ _ _ _ _ hx) (frozen_of_row _ _ _ _ _ hC) (frozen_of_row _ _ _ _ _ F0)
      · have hn1 : n - 1 = h := by omega
        rw [if_neg hl] at he
        rw [hn1] at hC
        refine ⟨_, got_moved b hub h (by omega) hh _ _ (.inr ⟨by omega, rfl, rfl⟩), ?_⟩
        rw [← hw1]
        refine mtf_more cb _ (B0 + 3) _ _ _ _ w1 (by omega) he hC F0 rfl rfl ?_
        exact move_last cb (B0 + 4 * h + 3) (B0 + 4 * (h - 1) + 3) (B0 + 3) _ (.pointer none) w1 (by omega) (by omega) (by omega) (by omega) (by omega) (by omega) (by omega) (by omega) (by omega) (by omega) hq
          (cell_at he rfl) (cell_at he rfl) (cell_at hp rfl) (cell_at hC rfl) (cell_at hC rfl) (cell_at F0 rfl) (frozen_of_row _ _ _ _ _ he) (frozen_of_row _ _ _ _ _ he) (frozen_of_row _ _ _ _ _ hp) (frozen_of_row _ _ _ _ _ hC) (frozen_of_row _ _ _ _ _ hC) (frozen_of_row _ _ _ _ _ F0)
  obtain ⟨s1, p3, p4, li, va, hc⟩ := hG.cc
  have hv : W.cell? ⟨B0 + 4 * h + 3, 3, none⟩ = some (.iface 48 (ptr (B0 + 4 * h + 2))) := by
    obtain ⟨pv, hE⟩ := hG.fin.E 0 (by omega)
    have e0 : ordH h 0 = h := by rw [ordH_nat, if_pos rfl]
    rw [e0] at hE
    exact cell_at hE rfl
  have hmp' := hmp.look_ok hh (b.wfu h hh)
  subst hw1
  refine (get_hit cb M (B0 + 4 * h + 3) (B0 + 4 * h + 2) (B0 + 4 * h + 1) (us h) w W (by omega) (cell_at b.cC rfl) (cell_at b.cC rfl) (frozen_of_row _ _ _ _ _ b.cC) hmp' hm hv (cell_at (hG.fin.Q h hh) rfl) (cell_at hc rfl) (frozen_of_row _ _ _ _ _ hc)).mono ?_
  rintro e w' ⟨rfl, rfl⟩
  exact ⟨rfl, hG.lock 0⟩
end Go.Proofs.Ybulkdjlc.C
