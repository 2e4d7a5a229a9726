import Derived.Test.YbulkdjhwAPre
import Derived.Test.YbulkdjhwAQuiet
import Derived.Great.Frames
import Derived.WalkKit
import Derived.BigFrame
namespace Go.Proofs.Ybulkdjhw.A
open Go.RowKit
set_option linter.unusedVariables false
theorem want_none {o : Oper} (h : o.guard = none) {ops : Array Oper} {t : Array Value} : Region.wanted o (yielded ops t) = true := by simp [Region.wanted, h]
/-- The region that asks the twin: whatever order it takes. -/
theorem region_same {o0 o1 o2 o3 o4 o5 o6 o7 o8 : Oper} {id : Nat} {Q : Exit → Act → World → Prop} {a : Act} {wt : World} {c : Tab} (hcok : c.ok) {vc vs1 : Nat → Value} {A nb b : Nat}
    (hl : Region.lexB .any #[o0, o1, o2, o3, o4, o5, o6, o7, o8] = true)
    (g0 : o0.guard = none) (g1 : o1.guard = none) (g2 : o2.guard = none) (g3 : o3.guard = none) (g4 : o4.guard = none) (g5 : o5.guard = none) (g6 : o6.guard = none) (g7 : o7.guard = none) (g8 : o8.guard = none)
    (d0 : o0.dst = some 226) (d1 : o1.dst = some 227) (d2 : o2.dst = some 228) (d3 : o3.dst = some 229) (d4 : o4.dst = some 230) (d5 : o5.dst = some 231) (d6 : o6.dst = some 232) (d7 : o7.dst = some 233) (d8 : o8.dst = some 234)
    (e0 : o0.op = .move (.tmp 33)) (e1 : o1.op = .nilCheck (.tmp 226)) (e2 : o2.op = .fieldAddr 44 (.tmp 227) 1) (e3 : o3.op = .load 37 (.tmp 228)) (e4 : o4.op = .load 26 (.tmp 16)) (e5 : o5.op = .load 28 (.tmp 18)) (e6 : o6.op = .load 24 (.tmp 15))
    (e7 : o7.op = .call { callee := .value (.func 13), args := #[.tmp 229, .tmp 230, .tmp 231, .tmp 232], argTypes := #[37, 26, 28, 24] }) (e8 : o8.op = .unOp .not 4 (.tmp 233))
    (hsz : a.tmps.size = 245) (h33 : a.eval (.tmp 33) = .pointer (some ⟨nb, 0, none⟩)) (h16 : a.eval (.tmp 16) = .pointer (some ⟨A + 1, 0, none⟩)) (h18 : a.eval (.tmp 18) = .pointer (some ⟨A + 1 + 1 + 1, 0, none⟩)) (h15 : a.eval (.tmp 15) = .pointer (some ⟨A, 0, none⟩))
    (hH : wt.heap[A + 1]? = some (.cells (hasA c) 26 (0, 0))) (hI : wt.heap[A + 1 + 1 + 1]? = some (.cells (idxA vc) 28 (0, 0))) (hA : wt.heap[A]? = some (.cells alphaV 24 (0, 0)))
    (hN : wt.cell? ⟨nb, 1, none⟩ = some (.map (some b))) (hnb : nb < wt.heap.size) (hM : MapIs wt wt.heap.size (some b) c vs1) (hR : ∀ i l, c i = some l → IdxRow wt wt.heap.size (vc i) l)
    (hQ : ∀ w', Below wt.heap.size wt w' → Q .normal (((((((((a.put (some 226) (.pointer (some ⟨nb, 0, none⟩))).put (some 227) (.pointer (some ⟨nb, 0, none⟩))).put (some 228) (.pointer (some ⟨nb, 1, none⟩))).put (some 229) (.map (some b))).put (some 230) (.agg (hasA c))).put (some 231) (.agg (idxA vc))).put (some 232) (.agg alphaV)).put (some 233) (.bool true)).put (some 234) (.bool false)) w') :
    (Code.region id #[o0, o1, o2, o3, o4, o5, o6, o7, o8] true).wp Yba.prog Q a wt := by
  have lA := lt_of_block hI
  refine wp_region_quiet (C := fun w' => Below wt.heap.size wt w') (by kernel_rfl) hl (Below.drew (Below.refl _ _)) ?_
  refine BigFrame.wpQuiet_want (want_none g0) fun K hK => BigFrame.quiet_move _ e0 (hK _ ?_)
  rw [d0, h33]
  obtain ⟨a0, ha0⟩ : ∃ a0, a0 = a.put (some 226) (.pointer (some ⟨nb, 0, none⟩)) := ⟨_, rfl⟩
  rw [← ha0]
  have s0 : a0.tmps.size = 245 := by rw [ha0, Act.size_put]; exact hsz
  have k0 : a0.eval (.tmp 226) = .pointer (some ⟨nb, 0, none⟩) := by rw [ha0]; exact Act.eval_put_same _ _ _ (by omega)
  refine BigFrame.wpQuiet_want (want_none g1) fun K hK => ⟨.pointer (some ⟨nb, 0, none⟩), fun w' _ => ?_, hK _ ?_⟩
  · unfold Oper.quietAt execOp
    simp only [e1, k0]
    simp [go_sem]
  rw [d1]
  obtain ⟨a1, ha1⟩ : ∃ a1, a1 = a0.put (some 227) (.pointer (some ⟨nb, 0, none⟩)) := ⟨_, rfl⟩
  rw [← ha1]
  have s1 : a1.tmps.size = 245 := by rw [ha1, Act.size_put]; exact s0
  have k1 : a1.eval (.tmp 227) = .pointer (some ⟨nb, 0, none⟩) := by rw [ha1]; exact Act.eval_put_same _ _ _ (by omega)
  refine BigFrame.wpQuiet_want (want_none g2) fun K hK => ⟨.pointer (some ⟨nb, 1, none⟩), fun w' _ => ?_, hK _ ?_⟩
  · unfold Oper.quietAt execOp
    simp only [e2, k1]
    simp [go_sem]
  rw [d2]
  obtain ⟨a2, ha2⟩ : ∃ a2, a2 = a1.put (some 228) (.pointer (some ⟨nb, 1, none⟩)) := ⟨_, rfl⟩
  rw [← ha2]
  have s2 : a2.tmps.size = 245 := by rw [ha2, Act.size_put]; exact s1
  have k2 : a2.eval (.tmp 228) = .pointer (some ⟨nb, 1, none⟩) := by rw [ha2]; exact Act.eval_put_same _ _ _ (by omega)
  refine BigFrame.wpQuiet_want (want_none g3) fun K hK => quiet_map _ e3 nb 1 (.map (some b)) k2 (fun w' h => (h.cell (p := ⟨nb, 1, none⟩) hnb).trans hN) (hK _ ?_)
  rw [d3]
  obtain ⟨a3, ha3⟩ : ∃ a3, a3 = a2.put (some 229) (.map (some b)) := ⟨_, rfl⟩
  rw [← ha3]
  have s3 : a3.tmps.size = 245 := by rw [ha3, Act.size_put]; exact s2
  have k3 : a3.eval (.tmp 229) = .map (some b) := by rw [ha3]; exact Act.eval_put_same _ _ _ (by omega)
  have k16 : a3.eval (.tmp 16) = .pointer (some ⟨A + 1, 0, none⟩) := by rw [ha3, Act.eval_put_ne _ _ _ _ (by omega), ha2, Act.eval_put_ne _ _ _ _ (by omega), ha1, Act.eval_put_ne _ _ _ _ (by omega), ha0, Act.eval_put_ne _ _ _ _ (by omega)]; exact h16
  have k18 : a3.eval (.tmp 18) = .pointer (some ⟨A + 1 + 1 + 1, 0, none⟩) := by rw [ha3, Act.eval_put_ne _ _ _ _ (by omega), ha2, Act.eval_put_ne _ _ _ _ (by omega), ha1, Act.eval_put_ne _ _ _ _ (by omega), ha0, Act.eval_put_ne _ _ _ _ (by omega)]; exact h18
  have k15 : a3.eval (.tmp 15) = .pointer (some ⟨A, 0, none⟩) := by rw [ha3, Act.eval_put_ne _ _ _ _ (by omega), ha2, Act.eval_put_ne _ _ _ _ (by omega), ha1, Act.eval_put_ne _ _ _ _ (by omega), ha0, Act.eval_put_ne _ _ _ _ (by omega)]; exact h15
  refine BigFrame.wpQuiet_want (want_none g4) fun K hK => quiet_row 26 _ e4 (A + 1) k16 (hasA c) (fun w' h => run_loadVar_row w' _ 26 26 _ (0, 0) _ ((h.block _ (by omega)).trans hH) Yba.underlying26 rfl (hasA_size c)) (hK _ ?_)
  rw [d4]
  refine BigFrame.wpQuiet_want (want_none g5) fun K hK => quiet_row 28 _ e5 (A + 1 + 1 + 1) (by rw [Act.eval_put_ne _ _ _ _ (by omega)]; exact k18) (idxA vc) (fun w' h => run_loadVar_row w' _ 28 28 _ (0, 0) _ ((h.block _ (by omega)).trans hI) Yba.underlying28 rfl (idxA_size vc)) (hK _ ?_)
  rw [d5]
  refine BigFrame.wpQuiet_want (want_none g6) fun K hK => quiet_row 24 _ e6 A (by rw [Act.eval_put_ne _ _ _ _ (by omega), Act.eval_put_ne _ _ _ _ (by omega)]; exact k15) alphaV (fun w' h => run_loadVar_row w' _ 24 24 _ (0, 0) _ ((h.block _ (by omega)).trans hA) Yba.underlying24 rfl info24s) (hK _ ?_)
  rw [d6]
  obtain ⟨a6, ha6⟩ : ∃ a6, a6 = ((a3.put (some 230) (.agg (hasA c))).put (some 231) (.agg (idxA vc))).put (some 232) (.agg alphaV) := ⟨_, rfl⟩
  rw [← ha6]
  have s6 : a6.tmps.size = 245 := by rw [ha6, Act.size_put, Act.size_put, Act.size_put]; exact s3
  have m0 : a6.eval (.tmp 229) = .map (some b) := by rw [ha6, Act.eval_put_ne _ _ _ _ (by omega), Act.eval_put_ne _ _ _ _ (by omega), Act.eval_put_ne _ _ _ _ (by omega)]; exact k3
  have m1 : a6.eval (.tmp 230) = .agg (hasA c) := by rw [ha6, Act.eval_put_ne _ _ _ _ (by omega), Act.eval_put_ne _ _ _ _ (by omega)]; exact Act.eval_put_same _ _ _ (by omega)
  have m2 : a6.eval (.tmp 231) = .agg (idxA vc) := by rw [ha6, Act.eval_put_ne _ _ _ _ (by omega)]; exact Act.eval_put_same _ _ _ (by rw [Act.size_put]; omega)
  have m3 : a6.eval (.tmp 232) = .agg alphaV := by rw [ha6]; exact Act.eval_put_same _ _ _ (by rw [Act.size_put, Act.size_put]; omega)
  refine BigFrame.wpQuiet_want (want_none g7) fun K hK => quiet_call13 _ _ _ _ _ e7 (.bool true) (.map (some b)) (.agg (hasA c)) (.agg (idxA vc)) (.agg alphaV) m0 m1 m2 m3 (fun w' h => ?_) (hK _ ?_)
  · have hs' := h.size
    refine (same_any c hcok vc vs1 wt.heap.size b w' hs' (hM.below h) (fun i l hl => ((hR i l hl).below h).mono hs')).mono ?_
    rintro e w'' ⟨rfl, hB⟩
    exact ⟨rfl, h.trans (hB.mono hs')⟩
  rw [d7]
  have m4 : (a6.put (some 233) (.bool true)).eval (.tmp 233) = .bool true := Act.eval_put_same _ _ _ (by omega)
  refine BigFrame.wpQuiet_want (want_none g8) fun K hK => ⟨.bool false, fun w' _ => ?_, hK _ ?_⟩
  · unfold Oper.quietAt execOp
    simp only [e8, m4]
    simp [go_sem]
  rw [d8]
  refine wpQuiet_nil ?_
  rw [ha6, ha3, ha2, ha1, ha0]
  exact hQ
theorem wpList_row_want {ops : Array Oper} {rest : List Oper} {o : Oper} {a : Act} {w : World} {Q : Exit → Act → World → Prop} (hw : Region.wanted o (yielded ops a.tmps) = true) (ty : TypeId) (x : Operand) (ho : o.op = .load ty x)
    (g : Nat) (hx : a.eval x = .pointer (some ⟨g, 0, none⟩)) (cs : Array Value) (hg : (loadVar ty ⟨g, 0, none⟩).run Yba.prog w = .ok (.agg cs) w)
    (h : wpList Yba.prog ops Q rest (a.put o.dst (.agg cs)) w) : wpList Yba.prog ops Q (o :: rest) a w :=
  BigFrame.wpList_want hw fun K hK => by
    unfold Oper.wp execOp
    simp only [ho, hx, Instr.loadAt, Instr.sureAddr, Sem.run_bind, Sem.run_pure, Result.andThen_ok, hg]
    exact hK _ _ h

/-! ### the law's text, from a statement on -/
def firstReg : Code → Option Nat
  | .region id _ _ => some id
  | .seq a _ => firstReg a
  | .block _ c => firstReg c
  | .loop c => firstReg c
  | .scope c => firstReg c
  | _ => none
def isReg (k : Nat) (c : Code) : Bool := match firstReg c with
  | some j => Nat.beq j k
  | none => false
/-- The statements from that with region k on. -/
def fromReg (k : Nat) : Code → Code
  | .seq a b => match isReg k a with
    | true => .seq a b
    | false => fromReg k b
  | c => c

/-- What stands once the canonical map is made. -/
structure StA (w wx : World) (A U E nb b : Nat) (c x : Tab) (vc vx vs1 ve : Nat → Value) : Prop where
  base : Base wx A U c x vc vx
  hU : U ≤ wx.heap.size
  hE : E < wx.heap.size
  nm : wx.cell? ⟨nb, 1, none⟩ = some (.map (some b))
  hnb : nb < wx.heap.size
  mc : MapIs wx wx.heap.size (some b) c vs1
  ep : wx.heap[E]? = some (.cells (idxA ve) 35 (0, 0))
  rows : ∀ i, i < 12 → RunRow wx 0 wx.heap.size (ve i) (ex c x i)
  le : ∀ i, i < 12 → (ex c x i).length ≤ 65536
  be : Below w.heap.size w wx
theorem StA.below {w wx wy : World} {A U E nb b : Nat} {c x : Tab} {vc vx vs1 ve : Nat → Value} (h : StA w wx A U E nb b c x vc vx vs1 ve) (hb : Below wx.heap.size wx wy) : StA w wy A U E nb b c x vc vx vs1 ve := by
  have := hb.size
  have hU := h.hU
  have hE := h.hE
  have hnb := h.hnb
  exact ⟨h.base.below (hb.mono hU), by omega, by omega, (hb.cell (p := ⟨nb, 1, none⟩) hnb).trans h.nm, by omega, (h.mc.below hb).mono (by omega), (hb.block E hE).trans h.ep, fun i hi => (h.rows i hi).below hb (by omega), h.le, h.be.trans (hb.mono h.be.size)⟩
end Go.Proofs.Ybulkdjhw.A
