import Derived.Test.YbulkdjlcRows
import Derived.Test.YbulkdjlcLocks
import Derived.Conc.MuLone
import Derived.WalkKit
import Derived.WalkSpells
import Derived.Below
import Derived.OneCell
import Derived.Laws.Rows
import Derived.LaidEqlPtr
namespace Go.Proofs.Ybulkdjlc.C
open Go.RowKit Go.MuLone
set_option linter.unusedVariables false
theorem hide2 {p : Prop} (h : p) : Hid p := h
theorem info35 : (Yba.prog.info? 35).map (fun i => (i.size, i.zero.isSome)) = some (4, true) := by kernel_rfl
theorem info_get {t : TypeId} {n : Nat} {z : Bool} (h : (Yba.prog.info? t).map (fun i => (i.size, i.zero.isSome)) = some (n, z)) : ∃ j, Yba.prog.info? t = some j ∧ j.size = n := by
  cases hj : Yba.prog.info? t with
  | none => rw [hj] at h; cases h
  | some j => rw [hj] at h; simp at h; exact ⟨j, rfl, h.1⟩
theorem info37 : (Yba.prog.info? 37).map (fun i => (i.size, i.zero.isSome)) = some (5, true) := by kernel_rfl
theorem info46 : (Yba.prog.info? 46).map (fun i => (i.size, i.zero.isSome)) = some (2, true) := by kernel_rfl
theorem neq_same (w : World) {tp te n : Nat} {z : Bool} (a : Addr) (hp : Yba.prog.underlying tp = some (.pointer te)) (hi : (Yba.prog.info? te).map (fun i => (i.size, i.zero.isSome)) = some (n, z)) :
    (binOp .neq tp (.pointer (some a)) (.pointer (some a))).run Yba.prog w = .ok (.bool false) w := by
  obtain ⟨j, hte, _⟩ := info_get hi
  have h : ∀ d : Nat, (Op.equalIn (d + 1) tp (.pointer (some a)) (.pointer (some a))).run Yba.prog w = .ok true w := fun d => by
    simp [Op.equalIn, run_underlying hp, sizeOf, typeInfo, hte, run_sameAddr_same]
  simp only [binOp]
  simp [Op.equal, Op.maxDepth, h 9999]
theorem eql_same (w : World) {tp te n : Nat} {z : Bool} (a : Addr) (hp : Yba.prog.underlying tp = some (.pointer te)) (hi : (Yba.prog.info? te).map (fun i => (i.size, i.zero.isSome)) = some (n, z)) :
    (binOp .eql tp (.pointer (some a)) (.pointer (some a))).run Yba.prog w = .ok (.bool true) w := by
  obtain ⟨j, hte, _⟩ := info_get hi
  exact run_eql_ptr_same w a hp hte
theorem eql_other (w : World) {tp te n : Nat} {z : Bool} {a b : Addr} {ca cb : Array Value} {ta tb : TypeId} (hp : Yba.prog.underlying tp = some (.pointer te)) (hi : (Yba.prog.info? te).map (fun i => (i.size, i.zero.isSome)) = some (n, z)) (hn : n ≠ 0) (hne : a ≠ b)
    (ha : w.heap[a.block]? = some (.cells ca ta (0, 0))) (hb : w.heap[b.block]? = some (.cells cb tb (0, 0))) :
    (binOp .eql tp (.pointer (some a)) (.pointer (some b))).run Yba.prog w = .ok (.bool false) w := by
  obtain ⟨j, hte, hj⟩ := info_get hi
  exact run_eql_ptr_other w hp hte (by omega) hne ha hb
theorem neq_other (w : World) {tp te n : Nat} {z : Bool} {a b : Addr} {ca cb : Array Value} {ta tb : TypeId} (hp : Yba.prog.underlying tp = some (.pointer te)) (hi : (Yba.prog.info? te).map (fun i => (i.size, i.zero.isSome)) = some (n, z)) (hn : n ≠ 0) (hne : a ≠ b)
    (ha : w.heap[a.block]? = some (.cells ca ta (0, 0))) (hb : w.heap[b.block]? = some (.cells cb tb (0, 0))) :
    (binOp .neq tp (.pointer (some a)) (.pointer (some b))).run Yba.prog w = .ok (.bool true) w := by
  obtain ⟨j, hte, hj⟩ := info_get hi
  have hj0 : j.size ≠ 0 := by omega
  have h : ∀ d : Nat, (Op.equalIn (d + 1) tp (.pointer (some a)) (.pointer (some b))).run Yba.prog w = .ok false w := fun d => by
    simp [Op.equalIn, run_underlying hp, sizeOf, typeInfo, hte, hj0, run_sameAddr_other w hne ha hb]
  simp only [binOp]
  simp [Op.equal, Op.maxDepth, h 9999]
theorem cell_at {w : World} {b i : Nat} {cs : Array Value} {t : TypeId} {fr : Nat × Nat} {v : Value} (hb : w.heap[b]? = some (.cells cs t fr)) (h : cs[i]? = some v) : w.cell? ⟨b, i, none⟩ = some v := by
  rw [cell_of_row w b i cs t fr hb, h]
theorem len_any (cb : Nat) (n : Int) (w : World) (h7 : w.cell? ⟨cb, 7, none⟩ = some (.int .i64 n)) :
    Calls Yba.prog 8 #[.pointer (some ⟨cb, 3, none⟩)] w fun e w' => e = .returned (.int .i64 n) ∧ w' = w := by
  go_enter Yba.func8, Yba.ntmps8
  go_wp2
  go_ret
  exact ⟨rfl, rfl⟩
theorem front_some (cb : Nat) (n : Nat) (v : Value) (w : World) (h7 : w.cell? ⟨cb, 7, none⟩ = some (.int .i64 n)) (h3 : w.cell? ⟨cb, 3, none⟩ = some v) (hn : 0 < n) :
    Calls Yba.prog 9 #[.pointer (some ⟨cb, 3, none⟩)] w fun e w' => e = .returned v ∧ w' = w := by
  have hn0 : ¬ (n : Int) = 0 := by omega
  go_enter Yba.func9, Yba.ntmps9
  go_wp2
  go_ret
  exact ⟨rfl, rfl⟩
theorem front_nil (cb : Nat) (w : World) (h7 : w.cell? ⟨cb, 7, none⟩ = some (.int .i64 0)) :
    Calls Yba.prog 9 #[.pointer (some ⟨cb, 3, none⟩)] w fun e w' => e = .returned (.pointer none) ∧ w' = w := by
  go_enter Yba.func9, Yba.ntmps9
  go_wp2
  go_ret
  exact ⟨rfl, rfl⟩
theorem next_some (eb q cb : Nat) (ce cq cc : Array Value) (tq : TypeId) (w : World) (he : w.heap[eb]? = some (.cells ce 35 (0, 0))) (h0 : ce[0]? = some (.pointer (some ⟨q, 0, none⟩))) (h2 : ce[2]? = some (.pointer (some ⟨cb, 3, none⟩))) (hq : q ≠ cb)
    (hqq : w.heap[q]? = some (.cells cq tq (0, 0))) (hcc : w.heap[cb]? = some (.cells cc 39 (0, 0))) :
    Calls Yba.prog 10 #[.pointer (some ⟨eb, 0, none⟩)] w fun e w' => e = .returned (.pointer (some ⟨q, 0, none⟩)) ∧ w' = w := by
  have c0 := cell_at he h0
  have c2 := cell_at he h2
  have hn := neq_other w (tp := 32) (a := ⟨q, 0, none⟩) (b := ⟨cb, 3, none⟩) Yba.underlying32 info35 (by omega) (fun h => hq (congrArg Addr.block h)) hqq hcc
  clear he h0 h2 hqq hcc hq
  go_enter Yba.func10, Yba.ntmps10
  go_wp2
  go_ret
  exact ⟨rfl, rfl⟩
theorem next_nil (eb cb : Nat) (ce : Array Value) (w : World) (he : w.heap[eb]? = some (.cells ce 35 (0, 0))) (h0 : ce[0]? = some (.pointer (some ⟨cb, 3, none⟩))) (h2 : ce[2]? = some (.pointer (some ⟨cb, 3, none⟩))) :
    Calls Yba.prog 10 #[.pointer (some ⟨eb, 0, none⟩)] w fun e w' => e = .returned (.pointer none) ∧ w' = w := by
  have c0 := cell_at he h0
  have c2 := cell_at he h2
  have hn := neq_same w (tp := 32) ⟨cb, 3, none⟩ Yba.underlying32 info35
  clear he h0 h2
  go_enter Yba.func10, Yba.ntmps10
  go_wp2
  go_ret
  exact ⟨rfl, rfl⟩
theorem itry_free (a : Addr) (w : World) (hc : w.cell? a = some (.int .i32 0)) (hz : w.frozen? a = false) :
    Calls Yba.prog 15 #[.pointer (some a)] w fun e w' => e = .returned (.bool true) ∧ w' = w.setCell a (.int .i32 1) := by
  have hd := disable Yba.muLib
  have he := enable Yba.muLib
  have ha := acquire Yba.muLib
  have hcas := run_call_cas_hit (P := Yba.prog) Yba.muLib.f_cas32 (by kernel_rfl) (by kernel_rfl) (by kernel_rfl) .i32 (by kernel_rfl) (y := 1) hc hz
  have hc' : (w.setCell a (.int .i32 1)).cell? a = some (.int .i32 1) := by simp [go_sem, hc]
  have hcv := run_convert_to_unsafe (P := Yba.prog) (src := 64) (dst := 68) Yba.muLib.underlying_tPIMutex Yba.muLib.underlying_tUP Yba.muLib.room_tIMutex hc'
  go_enter Yba.func15, Yba.ntmps15
  go_wp2
  go_ret
  exact ⟨rfl, rfl⟩
theorem try_free (a : Addr) (w : World) (hc : w.cell? a = some (.int .i32 0)) (hz : w.frozen? a = false) :
    Calls Yba.prog 6 #[.pointer (some a)] w fun e w' => e = .returned (.bool true) ∧ w' = w.setCell a (.int .i32 1) := by
  go_enter Yba.func6, Yba.ntmps6
  go_wp2_with (go_at_call 15; refine (itry_free _ _ (by first | exact hc | simpa using hc) (by first | exact hz | simpa using hz)).mono ?_; rintro e w' ⟨rfl, rfl⟩)
  go_ret
  exact ⟨rfl, rfl⟩
/-- What a call that turns blocks p and q, and makes one, leaves. -/
structure But2 (p q : Nat) (w w' : World) : Prop where
  os : w'.os = w.os
  tape : w'.tape = w.tape
  output : w'.output = w.output
  size : w.heap.size ≤ w'.heap.size
  block : ∀ k, k < w.heap.size → k ≠ p → k ≠ q → w'.heap[k]? = w.heap[k]?
theorem But2.refl (p q : Nat) (w : World) : But2 p q w w := ⟨rfl, rfl, rfl, Nat.le_refl _, fun _ _ _ _ => rfl⟩
theorem But2.alloc {p q : Nat} {a w : World} (h : But2 p q a w) (o : Obj) : But2 p q a (w.alloc o) :=
  ⟨h.os, h.tape, h.output, by have := h.size; simp only [World.size_alloc]; omega, fun k hk h1 h2 => (Below.heap_alloc w o k (by have := h.size; omega)).trans (h.block k hk h1 h2)⟩
theorem But2.set {p q : Nat} {a w : World} (h : But2 p q a w) (x : Addr) (v : Value) (hx : x.block = p ∨ x.block = q ∨ a.heap.size ≤ x.block) : But2 p q a (w.setCell x v) :=
  ⟨h.os, h.tape, h.output, by have := h.size; simp [World.setCell]; exact this, fun k hk h1 h2 => (Below.heap_setCell w x v k (by rcases hx with e | e | e <;> omega)).trans (h.block k hk h1 h2)⟩
theorem lazy_done (cb : Nat) (f : Addr) (w : World) (c3 : w.cell? ⟨cb, 3, none⟩ = some (.pointer (some f))) :
    Calls Yba.prog 11 #[.pointer (some ⟨cb, 3, none⟩)] w fun e w' => e = .returned (.tuple #[]) ∧ w' = w := by
  go_enter Yba.func11, Yba.ntmps11
  go_wp2
  go_end0
  exact ⟨rfl, rfl⟩
theorem init_any (cb : Nat) (x3 x4 x7 : Value) (w : World) (c3 : w.cell? ⟨cb, 3, none⟩ = some x3) (c4 : w.cell? ⟨cb, 4, none⟩ = some x4) (c7 : w.cell? ⟨cb, 7, none⟩ = some x7) (f3 : w.frozen? ⟨cb, 3, none⟩ = false) (f4 : w.frozen? ⟨cb, 4, none⟩ = false) (f7 : w.frozen? ⟨cb, 7, none⟩ = false) :
    Calls Yba.prog 17 #[.pointer (some ⟨cb, 3, none⟩)] w fun e w' => e = .returned (.pointer (some ⟨cb, 3, none⟩)) ∧ w' = ((w.setCell ⟨cb, 3, none⟩ (.pointer (some ⟨cb, 3, none⟩))).setCell ⟨cb, 4, none⟩ (.pointer (some ⟨cb, 3, none⟩))).setCell ⟨cb, 7, none⟩ (.int .i64 0) := by
  go_enter Yba.func17, Yba.ntmps17
  go_wp2
  go_ret
  exact ⟨rfl, rfl⟩
theorem lazy_first (cb : Nat) (x4 x7 : Value) (w : World) (c3 : w.cell? ⟨cb, 3, none⟩ = some (.pointer none)) (c4 : w.cell? ⟨cb, 4, none⟩ = some x4) (c7 : w.cell? ⟨cb, 7, none⟩ = some x7) (f3 : w.frozen? ⟨cb, 3, none⟩ = false) (f4 : w.frozen? ⟨cb, 4, none⟩ = false) (f7 : w.frozen? ⟨cb, 7, none⟩ = false) :
    Calls Yba.prog 11 #[.pointer (some ⟨cb, 3, none⟩)] w fun e w' => e = .returned (.tuple #[]) ∧ w' = ((w.setCell ⟨cb, 3, none⟩ (.pointer (some ⟨cb, 3, none⟩))).setCell ⟨cb, 4, none⟩ (.pointer (some ⟨cb, 3, none⟩))).setCell ⟨cb, 7, none⟩ (.int .i64 0) := by
  go_enter Yba.func11, Yba.ntmps11
  go_wp2_with (go_at_call 17; refine (init_any cb _ _ _ _ c3 c4 c7 f3 f4 f7).mono ?_; rintro e w' ⟨rfl, rfl⟩)
  go_end0
  exact ⟨rfl, rfl⟩
set_option maxHeartbeats 1000000 in
/-- insert behind the element in block lb, whose next is the root. -/
theorem insert_more (cb lb eb : Nat) (y0 y1 y2 p4 : Value) (n : Nat) (w : World) (hn : n < 4096) (e1 : ¬ cb = lb) (e2 : ¬ lb = cb) (e3 : ¬ eb = cb) (e4 : ¬ cb = eb) (e5 : ¬ eb = lb) (e6 : ¬ lb = eb)
    (a0 : w.cell? ⟨eb, 0, none⟩ = some y0) (a1 : w.cell? ⟨eb, 1, none⟩ = some y1) (a2 : w.cell? ⟨eb, 2, none⟩ = some y2) (l0 : w.cell? ⟨lb, 0, none⟩ = some (.pointer (some ⟨cb, 3, none⟩)))
    (c4 : w.cell? ⟨cb, 4, none⟩ = some p4) (c7 : w.cell? ⟨cb, 7, none⟩ = some (.int .i64 n))
    (fa0 : w.frozen? ⟨eb, 0, none⟩ = false) (fa1 : w.frozen? ⟨eb, 1, none⟩ = false) (fa2 : w.frozen? ⟨eb, 2, none⟩ = false) (fl : w.frozen? ⟨lb, 0, none⟩ = false) (f4 : w.frozen? ⟨cb, 4, none⟩ = false) (f7 : w.frozen? ⟨cb, 7, none⟩ = false) :
    Calls Yba.prog 18 #[.pointer (some ⟨cb, 3, none⟩), .pointer (some ⟨eb, 0, none⟩), .pointer (some ⟨lb, 0, none⟩)] w fun e w' => e = .returned (.pointer (some ⟨eb, 0, none⟩)) ∧
      w' = (((((w.setCell ⟨eb, 1, none⟩ (.pointer (some ⟨lb, 0, none⟩))).setCell ⟨eb, 0, none⟩ (.pointer (some ⟨cb, 3, none⟩))).setCell ⟨lb, 0, none⟩ (.pointer (some ⟨eb, 0, none⟩))).setCell ⟨cb, 4, none⟩ (.pointer (some ⟨eb, 0, none⟩))).setCell ⟨eb, 2, none⟩ (.pointer (some ⟨cb, 3, none⟩))).setCell ⟨cb, 7, none⟩ (.int .i64 ((n : Int) + 1)) := by
  go_enter Yba.func18, Yba.ntmps18
  go_wp2
  go_ret
  exact ⟨rfl, rfl⟩
set_option maxHeartbeats 1000000 in
/-- insert behind the root of a list that is laid and empty. -/
theorem insert_first (cb eb : Nat) (y0 y1 y2 p4 : Value) (n : Nat) (w : World) (hn : n < 4096) (e3 : ¬ eb = cb) (e4 : ¬ cb = eb)
    (a0 : w.cell? ⟨eb, 0, none⟩ = some y0) (a1 : w.cell? ⟨eb, 1, none⟩ = some y1) (a2 : w.cell? ⟨eb, 2, none⟩ = some y2) (c3 : w.cell? ⟨cb, 3, none⟩ = some (.pointer (some ⟨cb, 3, none⟩)))
    (c4 : w.cell? ⟨cb, 4, none⟩ = some p4) (c7 : w.cell? ⟨cb, 7, none⟩ = some (.int .i64 n))
    (fa0 : w.frozen? ⟨eb, 0, none⟩ = false) (fa1 : w.frozen? ⟨eb, 1, none⟩ = false) (fa2 : w.frozen? ⟨eb, 2, none⟩ = false) (f3 : w.frozen? ⟨cb, 3, none⟩ = false) (f4 : w.frozen? ⟨cb, 4, none⟩ = false) (f7 : w.frozen? ⟨cb, 7, none⟩ = false) :
    Calls Yba.prog 18 #[.pointer (some ⟨cb, 3, none⟩), .pointer (some ⟨eb, 0, none⟩), .pointer (some ⟨cb, 3, none⟩)] w fun e w' => e = .returned (.pointer (some ⟨eb, 0, none⟩)) ∧
      w' = (((((w.setCell ⟨eb, 1, none⟩ (.pointer (some ⟨cb, 3, none⟩))).setCell ⟨eb, 0, none⟩ (.pointer (some ⟨cb, 3, none⟩))).setCell ⟨cb, 3, none⟩ (.pointer (some ⟨eb, 0, none⟩))).setCell ⟨cb, 4, none⟩ (.pointer (some ⟨eb, 0, none⟩))).setCell ⟨eb, 2, none⟩ (.pointer (some ⟨cb, 3, none⟩))).setCell ⟨cb, 7, none⟩ (.int .i64 ((n : Int) + 1)) := by
  go_enter Yba.func18, Yba.ntmps18
  go_wp2
  go_ret
  exact ⟨rfl, rfl⟩
theorem same_step {w : World} {X k : Nat} {cs : Array Value} {t : TypeId} (v : Value) (h : w.heap[X]? = some (.cells cs t (0, 0))) : (w.setCell ⟨X, k, none⟩ v).heap[X]? = some (.cells (cs.setIfInBounds k v) t (0, 0)) := heap_setCell_same w X k cs t v h
theorem else_step {w : World} {X b k : Nat} {o : Option Obj} (v : Value) (hne : X ≠ b) (h : w.heap[X]? = o) : (w.setCell ⟨b, k, none⟩ v).heap[X]? = o := (Below.heap_setCell w ⟨b, k, none⟩ v X hne).trans h
/-- What 'insert' leaves of the three blocks. -/
theorem insW_more {cb lb eb : Nat} {y0 y1 y2 v s0 s1 s2 pf p4 li va mp pl vl l0 : Value} {n : Nat} {w : World} (e2 : lb ≠ cb) (e3 : eb ≠ cb) (e5 : eb ≠ lb)
    (hE : w.heap[eb]? = some (.cells #[y0, y1, y2, v] 35 (0, 0))) (hC : w.heap[cb]? = some (.cells #[s0, s1, s2, pf, p4, li, va, .int .i64 n, mp] 39 (0, 0))) (hL : w.heap[lb]? = some (.cells #[l0, pl, .pointer (some ⟨cb, 3, none⟩), vl] 35 (0, 0))) :
    let W := (((((w.setCell ⟨eb, 1, none⟩ (.pointer (some ⟨lb, 0, none⟩))).setCell ⟨eb, 0, none⟩ (.pointer (some ⟨cb, 3, none⟩))).setCell ⟨lb, 0, none⟩ (.pointer (some ⟨eb, 0, none⟩))).setCell ⟨cb, 4, none⟩ (.pointer (some ⟨eb, 0, none⟩))).setCell ⟨eb, 2, none⟩ (.pointer (some ⟨cb, 3, none⟩))).setCell ⟨cb, 7, none⟩ (.int .i64 ((n : Int) + 1))
    W.heap[eb]? = some (.cells #[.pointer (some ⟨cb, 3, none⟩), .pointer (some ⟨lb, 0, none⟩), .pointer (some ⟨cb, 3, none⟩), v] 35 (0, 0)) ∧
    W.heap[cb]? = some (.cells #[s0, s1, s2, pf, .pointer (some ⟨eb, 0, none⟩), li, va, .int .i64 ((n + 1 : Nat) : Int), mp] 39 (0, 0)) ∧
    W.heap[lb]? = some (.cells #[.pointer (some ⟨eb, 0, none⟩), pl, .pointer (some ⟨cb, 3, none⟩), vl] 35 (0, 0)) :=
  ⟨else_step _ e3 (same_step _ (else_step _ e3 (else_step _ e5 (same_step _ (same_step _ hE))))),
   same_step _ (else_step _ e3.symm (same_step _ (else_step _ e2.symm (else_step _ e3.symm (else_step _ e3.symm hC))))),
   else_step _ e2 (else_step _ e5.symm (else_step _ e2 (same_step _ (else_step _ e5.symm (else_step _ e5.symm hL)))))⟩
theorem insW_first {cb eb : Nat} {y0 y1 y2 v s0 s1 s2 pf p4 li va mp : Value} {n : Nat} {w : World} (e3 : eb ≠ cb)
    (hE : w.heap[eb]? = some (.cells #[y0, y1, y2, v] 35 (0, 0))) (hC : w.heap[cb]? = some (.cells #[s0, s1, s2, pf, p4, li, va, .int .i64 n, mp] 39 (0, 0))) :
    let W := (((((w.setCell ⟨eb, 1, none⟩ (.pointer (some ⟨cb, 3, none⟩))).setCell ⟨eb, 0, none⟩ (.pointer (some ⟨cb, 3, none⟩))).setCell ⟨cb, 3, none⟩ (.pointer (some ⟨eb, 0, none⟩))).setCell ⟨cb, 4, none⟩ (.pointer (some ⟨eb, 0, none⟩))).setCell ⟨eb, 2, none⟩ (.pointer (some ⟨cb, 3, none⟩))).setCell ⟨cb, 7, none⟩ (.int .i64 ((n : Int) + 1))
    W.heap[eb]? = some (.cells #[.pointer (some ⟨cb, 3, none⟩), .pointer (some ⟨cb, 3, none⟩), .pointer (some ⟨cb, 3, none⟩), v] 35 (0, 0)) ∧
    W.heap[cb]? = some (.cells #[s0, s1, s2, .pointer (some ⟨eb, 0, none⟩), .pointer (some ⟨eb, 0, none⟩), li, va, .int .i64 ((n + 1 : Nat) : Int), mp] 39 (0, 0)) :=
  ⟨else_step _ e3 (same_step _ (else_step _ e3 (else_step _ e3 (same_step _ (same_step _ hE))))),
   same_step _ (else_step _ e3.symm (same_step _ (same_step _ (else_step _ e3.symm (else_step _ e3.symm hC)))))⟩
set_option maxHeartbeats 1000000 in
/-- PushBack on a list that has elements: the last one lies in block lb. -/
theorem push_more (cb lb : Nat) (s0 s1 s2 li va mp pl vl : Value) (qb : Nat) (f : Addr) (n : Nat) (w : World) (hn : n < 4096) (hne : lb ≠ cb)
    (hC : w.heap[cb]? = some (.cells #[s0, s1, s2, .pointer (some f), .pointer (some ⟨lb, 0, none⟩), li, va, .int .i64 n, mp] 39 (0, 0)))
    (hL : w.heap[lb]? = some (.cells #[.pointer (some ⟨cb, 3, none⟩), pl, .pointer (some ⟨cb, 3, none⟩), vl] 35 (0, 0))) :
    Calls Yba.prog 4 #[.pointer (some ⟨cb, 3, none⟩), (.iface 48 (.pointer (some ⟨qb, 0, none⟩)))] w fun e w' => e = .returned (.pointer (some ⟨w.heap.size, 0, none⟩)) ∧ w'.heap.size = w.heap.size + 1 ∧ But2 cb lb w w' ∧
      w'.heap[w.heap.size]? = some (.cells #[.pointer (some ⟨cb, 3, none⟩), .pointer (some ⟨lb, 0, none⟩), .pointer (some ⟨cb, 3, none⟩), (.iface 48 (.pointer (some ⟨qb, 0, none⟩)))] 35 (0, 0)) ∧
      w'.heap[cb]? = some (.cells #[s0, s1, s2, .pointer (some f), .pointer (some ⟨w.heap.size, 0, none⟩), li, va, .int .i64 ((n + 1 : Nat) : Int), mp] 39 (0, 0)) ∧
      w'.heap[lb]? = some (.cells #[.pointer (some ⟨w.heap.size, 0, none⟩), pl, .pointer (some ⟨cb, 3, none⟩), vl] 35 (0, 0)) := by
  have lc := lt_of_block hC
  have ll := lt_of_block hL
  have c3 : w.cell? ⟨cb, 3, none⟩ = some (.pointer (some f)) := cell_at hC rfl
  have c4 : w.cell? ⟨cb, 4, none⟩ = some (.pointer (some ⟨lb, 0, none⟩)) := cell_at hC rfl
  have ins : ∀ W1 : World, W1 = w.alloc (.cells #[.pointer none, .pointer none, .pointer none, (.iface 48 (.pointer (some ⟨qb, 0, none⟩)))] 35) → Calls Yba.prog 18 #[.pointer (some ⟨cb, 3, none⟩), .pointer (some ⟨w.heap.size, 0, none⟩), .pointer (some ⟨lb, 0, none⟩)] W1 fun e w' => e = .returned (.pointer (some ⟨w.heap.size, 0, none⟩)) ∧ w'.heap.size = w.heap.size + 1 ∧ But2 cb lb w w' ∧
      w'.heap[w.heap.size]? = some (.cells #[.pointer (some ⟨cb, 3, none⟩), .pointer (some ⟨lb, 0, none⟩), .pointer (some ⟨cb, 3, none⟩), (.iface 48 (.pointer (some ⟨qb, 0, none⟩)))] 35 (0, 0)) ∧
      w'.heap[cb]? = some (.cells #[s0, s1, s2, .pointer (some f), .pointer (some ⟨w.heap.size, 0, none⟩), li, va, .int .i64 ((n + 1 : Nat) : Int), mp] 39 (0, 0)) ∧
      w'.heap[lb]? = some (.cells #[.pointer (some ⟨w.heap.size, 0, none⟩), pl, .pointer (some ⟨cb, 3, none⟩), vl] 35 (0, 0)) := by
    intro W1 hW1
    have bE : W1.heap[w.heap.size]? = some (.cells #[.pointer none, .pointer none, .pointer none, (.iface 48 (.pointer (some ⟨qb, 0, none⟩)))] 35 (0, 0)) := by rw [hW1]; exact heap_alloc_new w _
    have bC := (by rw [hW1]; exact (Below.heap_alloc w _ cb lc).trans hC : W1.heap[cb]? = some (.cells #[s0, s1, s2, .pointer (some f), .pointer (some ⟨lb, 0, none⟩), li, va, .int .i64 n, mp] 39 (0, 0)))
    have bL := (by rw [hW1]; exact (Below.heap_alloc w _ lb ll).trans hL : W1.heap[lb]? = some (.cells #[.pointer (some ⟨cb, 3, none⟩), pl, .pointer (some ⟨cb, 3, none⟩), vl] 35 (0, 0)))
    refine (insert_more cb lb w.heap.size _ _ _ _ n W1 hn (fun h => hne h.symm) hne (by omega) (by omega) (by omega) (by omega) (cell_at bE rfl) (cell_at bE rfl) (cell_at bE rfl) (cell_at bL rfl) (cell_at bC rfl) (cell_at bC rfl)
      (frozen_of_row _ _ _ _ _ bE) (frozen_of_row _ _ _ _ _ bE) (frozen_of_row _ _ _ _ _ bE) (frozen_of_row _ _ _ _ _ bL) (frozen_of_row _ _ _ _ _ bC) (frozen_of_row _ _ _ _ _ bC)).mono ?_
    rintro e w' ⟨rfl, rfl⟩
    have hs : W1.heap.size = w.heap.size + 1 := by rw [hW1]; simp
    have hB : But2 cb lb w W1 := by rw [hW1]; exact (But2.refl cb lb w).alloc _
    obtain ⟨r1, r2, r3⟩ := insW_more (y0 := .pointer none) (y1 := .pointer none) (y2 := .pointer none) hne (show w.heap.size ≠ cb by omega) (show w.heap.size ≠ lb by omega) bE bC bL
    refine ⟨rfl, by simp [World.setCell, hs], ?_, r1, r2, r3⟩
    exact (((((hB.set ⟨w.heap.size, 1, none⟩ _ (.inr (.inr (Nat.le_refl _)))).set ⟨w.heap.size, 0, none⟩ _ (.inr (.inr (Nat.le_refl _)))).set ⟨lb, 0, none⟩ _ (.inr (.inl rfl))).set ⟨cb, 4, none⟩ _ (.inl rfl)).set ⟨w.heap.size, 2, none⟩ _ (.inr (.inr (Nat.le_refl _)))).set ⟨cb, 7, none⟩ _ (.inl rfl)
  have HI := hide2 ins
  clear hC hL ins
  go_enter Yba.func4, Yba.ntmps4
  go_wp2_with (first | (go_at_call 11; refine (lazy_done cb f _ c3).mono ?_; rintro e w' ⟨rfl, hw'⟩; obtain rfl := hw'.symm) | (go_at_call 18; refine (HI.out _ rfl).mono ?_; rintro e w' ⟨rfl, hw'⟩) | go_in)
  go_ret
  exact ⟨rfl, hw'⟩
set_option maxHeartbeats 1000000 in
/-- PushBack on a list that is not yet laid. -/
theorem push_first (cb : Nat) (s0 s1 s2 x4 li va mp : Value) (qb : Nat) (x7 : Value) (w : World)
    (hC : w.heap[cb]? = some (.cells #[s0, s1, s2, .pointer none, x4, li, va, x7, mp] 39 (0, 0))) :
    Calls Yba.prog 4 #[.pointer (some ⟨cb, 3, none⟩), (.iface 48 (.pointer (some ⟨qb, 0, none⟩)))] w fun e w' => e = .returned (.pointer (some ⟨w.heap.size, 0, none⟩)) ∧ w'.heap.size = w.heap.size + 1 ∧ But2 cb cb w w' ∧
      w'.heap[w.heap.size]? = some (.cells #[.pointer (some ⟨cb, 3, none⟩), .pointer (some ⟨cb, 3, none⟩), .pointer (some ⟨cb, 3, none⟩), (.iface 48 (.pointer (some ⟨qb, 0, none⟩)))] 35 (0, 0)) ∧
      w'.heap[cb]? = some (.cells #[s0, s1, s2, .pointer (some ⟨w.heap.size, 0, none⟩), .pointer (some ⟨w.heap.size, 0, none⟩), li, va, .int .i64 ((0 + 1 : Nat) : Int), mp] 39 (0, 0)) := by
  have lc := lt_of_block hC
  have c3 : w.cell? ⟨cb, 3, none⟩ = some (.pointer none) := cell_at hC rfl
  have c4 : w.cell? ⟨cb, 4, none⟩ = some x4 := cell_at hC rfl
  have c7 : w.cell? ⟨cb, 7, none⟩ = some x7 := cell_at hC rfl
  have f3 := frozen_of_row w cb 3 _ 39 hC
  have f4 := frozen_of_row w cb 4 _ 39 hC
  have f7 := frozen_of_row w cb 7 _ 39 hC
  obtain ⟨W0, hW0⟩ : ∃ W0, W0 = ((w.setCell ⟨cb, 3, none⟩ (.pointer (some ⟨cb, 3, none⟩))).setCell ⟨cb, 4, none⟩ (.pointer (some ⟨cb, 3, none⟩))).setCell ⟨cb, 7, none⟩ (.int .i64 0) := ⟨_, rfl⟩
  have hC0 : W0.heap[cb]? = some (.cells #[s0, s1, s2, .pointer (some ⟨cb, 3, none⟩), .pointer (some ⟨cb, 3, none⟩), li, va, .int .i64 (0 : Nat), mp] 39 (0, 0)) := by
    rw [hW0]; exact same_step _ (same_step _ (same_step _ hC))
  have hs0 : W0.heap.size = w.heap.size := by rw [hW0]; simp [World.setCell]
  have hB0 : But2 cb cb w W0 := by rw [hW0]; exact (((But2.refl cb cb w).set ⟨cb, 3, none⟩ _ (.inl rfl)).set ⟨cb, 4, none⟩ _ (.inl rfl)).set ⟨cb, 7, none⟩ _ (.inl rfl)
  have d4 : W0.cell? ⟨cb, 4, none⟩ = some (.pointer (some ⟨cb, 3, none⟩)) := cell_at hC0 rfl
  have lz : Hid (Calls Yba.prog 11 #[.pointer (some ⟨cb, 3, none⟩)] w fun e w' => e = .returned (.tuple #[]) ∧ w' = W0) := by rw [hW0]; exact lazy_first cb x4 x7 w c3 c4 c7 f3 f4 f7
  have ins : ∀ W1 : World, W1 = W0.alloc (.cells #[.pointer none, .pointer none, .pointer none, (.iface 48 (.pointer (some ⟨qb, 0, none⟩)))] 35) → Calls Yba.prog 18 #[.pointer (some ⟨cb, 3, none⟩), .pointer (some ⟨W0.heap.size, 0, none⟩), .pointer (some ⟨cb, 3, none⟩)] W1 fun e w' => e = .returned (.pointer (some ⟨W0.heap.size, 0, none⟩)) ∧ w'.heap.size = w.heap.size + 1 ∧ But2 cb cb w w' ∧
      w'.heap[w.heap.size]? = some (.cells #[.pointer (some ⟨cb, 3, none⟩), .pointer (some ⟨cb, 3, none⟩), .pointer (some ⟨cb, 3, none⟩), (.iface 48 (.pointer (some ⟨qb, 0, none⟩)))] 35 (0, 0)) ∧
      w'.heap[cb]? = some (.cells #[s0, s1, s2, .pointer (some ⟨w.heap.size, 0, none⟩), .pointer (some ⟨w.heap.size, 0, none⟩), li, va, .int .i64 ((0 + 1 : Nat) : Int), mp] 39 (0, 0)) := by
    intro W1 hW1
    rw [hs0]
    have bE : W1.heap[w.heap.size]? = some (.cells #[.pointer none, .pointer none, .pointer none, (.iface 48 (.pointer (some ⟨qb, 0, none⟩)))] 35 (0, 0)) := by rw [hW1, ← hs0]; exact heap_alloc_new W0 _
    have bC := (by rw [hW1]; exact (Below.heap_alloc W0 _ cb (by omega)).trans hC0 : W1.heap[cb]? = some (.cells #[s0, s1, s2, .pointer (some ⟨cb, 3, none⟩), .pointer (some ⟨cb, 3, none⟩), li, va, .int .i64 (0 : Nat), mp] 39 (0, 0)))
    refine (insert_first cb w.heap.size _ _ _ _ 0 W1 (by omega) (by omega) (by omega) (cell_at bE rfl) (cell_at bE rfl) (cell_at bE rfl) (cell_at bC rfl) (cell_at bC rfl) (cell_at bC rfl)
      (frozen_of_row _ _ _ _ _ bE) (frozen_of_row _ _ _ _ _ bE) (frozen_of_row _ _ _ _ _ bE) (frozen_of_row _ _ _ _ _ bC) (frozen_of_row _ _ _ _ _ bC) (frozen_of_row _ _ _ _ _ bC)).mono ?_
    rintro e w' ⟨rfl, rfl⟩
    have hs : W1.heap.size = w.heap.size + 1 := by rw [hW1, ← hs0]; simp
    have hB : But2 cb cb w W1 := by rw [hW1]; exact hB0.alloc _
    obtain ⟨r1, r2⟩ := insW_first (n := 0) (y0 := .pointer none) (y1 := .pointer none) (y2 := .pointer none) (show w.heap.size ≠ cb by omega) bE bC
    refine ⟨rfl, by simp [World.setCell, hs], ?_, r1, r2⟩
    exact (((((hB.set ⟨w.heap.size, 1, none⟩ _ (.inr (.inr (Nat.le_refl _)))).set ⟨w.heap.size, 0, none⟩ _ (.inr (.inr (Nat.le_refl _)))).set ⟨cb, 3, none⟩ _ (.inl rfl)).set ⟨cb, 4, none⟩ _ (.inl rfl)).set ⟨w.heap.size, 2, none⟩ _ (.inr (.inr (Nat.le_refl _)))).set ⟨cb, 7, none⟩ _ (.inl rfl)
  have HI := hide2 ins
  have HS := hide2 hs0
  clear hC hC0 ins hW0 hs0 hB0 c3 c4 c7 f3 f4 f7
  go_enter Yba.func4, Yba.ntmps4
  go_wp2_with (first | (go_at_call 11; refine lz.out.mono ?_; rintro e w' ⟨rfl, hw'⟩; obtain rfl := hw'.symm) | (go_at_call 18; refine (HI.out _ rfl).mono ?_; rintro e w' ⟨rfl, hw'⟩) | go_in)
  go_ret
  rw [HS.out]
  exact ⟨rfl, hw'⟩
end Go.Proofs.Ybulkdjlc.C
