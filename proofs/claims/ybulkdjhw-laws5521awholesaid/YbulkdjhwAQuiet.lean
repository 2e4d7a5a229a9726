import Derived.Test.YbulkdjhwAPre
import Derived.WalkKit
import Derived.WalkSpells
import Derived.BigQuiet
import Derived.Deep.QuietTactic
import Derived.Laws.Rows
import Derived.Outline
namespace Go.Proofs.Ybulkdjhw.A
open Go.RowKit
set_option linter.unusedVariables false
theorem quiet_row {C : World → Prop} {a : Act} {o : Oper} {K : Act → Prop} (ty : TypeId) (x : Operand) (ho : o.op = .load ty x) (g : Nat) (hx : a.eval x = .pointer (some ⟨g, 0, none⟩)) (cs : Array Value)
    (hg : ∀ w, C w → (loadVar ty ⟨g, 0, none⟩).run Yba.prog w = .ok (.agg cs) w) 
    (hk : K (a.put o.dst (.agg cs))) : o.quiet Yba.prog a C K :=
  ⟨_, fun w hw => by
    unfold Oper.quietAt execOp
    simp only [ho, hx, Instr.loadAt, Instr.sureAddr, Sem.run_bind, Sem.run_pure, Result.andThen_ok, hg w hw]
    exact ⟨rfl, rfl⟩, hk⟩
theorem run_map (w : World) (g j : Nat) (v : Value) (h : w.cell? ⟨g, j, none⟩ = some v) : (loadVar 37 ⟨g, j, none⟩).run Yba.prog w = .ok v w := by
  simp [go_sem, h]
theorem quiet_map {C : World → Prop} {a : Act} {o : Oper} {K : Act → Prop} (x : Operand) (ho : o.op = .load 37 x) (g j : Nat) (v : Value) (hx : a.eval x = .pointer (some ⟨g, j, none⟩))
    (hg : ∀ w, C w → w.cell? ⟨g, j, none⟩ = some v) (hk : K (a.put o.dst v)) : o.quiet Yba.prog a C K :=
  ⟨_, fun w hw => by
    have h := run_map w g j v (hg w hw)
    unfold Oper.quietAt execOp
    simp only [ho, hx, Instr.loadAt, Instr.sureAddr, Sem.run_bind, Sem.run_pure, Result.andThen_ok, h]
    exact ⟨rfl, rfl⟩, hk⟩
theorem quiet_call13 {C : World → Prop} {a : Act} {o : Oper} {K : Act → Prop} (x0 x1 x2 x3 : Operand) (ts : Array TypeId) (ho : o.op = .call { callee := .value (.func 13), args := #[x0, x1, x2, x3], argTypes := ts }) (v y0 y1 y2 y3 : Value)
    (h0 : a.eval x0 = y0) (h1 : a.eval x1 = y1) (h2 : a.eval x2 = y2) (h3 : a.eval x3 = y3)
    (hc : ∀ w, C w → Calls Yba.prog 13 #[y0, y1, y2, y3] w fun e w'' => e = .returned v ∧ C w'') (hk : K (a.put o.dst v)) : o.quiet Yba.prog a C K :=
  ⟨v, fun w hw => by
    have h := hc w hw
    unfold Oper.quietAt execOp
    have e : a.eval (.func 13) = .func (.func 13) #[] #[] := rfl
    simp only [ho, resolve, e, List.map_toArray, List.map_cons, List.map_nil, h0, h1, h2, h3, Sem.run_bind]
    simp [go_sem]
    exact h, hk⟩
theorem new_cells {w w' : World} {g lim : Nat} {L : List Int} (hb : Below lim w w') (hg : g < lim) (hc : ∀ j, j < L.length → w.cell? ⟨g, j, none⟩ = some (.int .i32 (L.getD j 0))) :
    ∀ q u, (L.map (Value.int .i32))[q]? = some u → w'.cell? ((⟨g, 0, none⟩ : Addr).add q) = some u := by
  intro q u hq
  have hq2 : q < L.length := by have := (List.getElem?_eq_some_iff.1 hq).1; simpa using this
  rw [Addr.add_lit, Nat.zero_add, hb.cell (p := ⟨g, q, none⟩) hg, hc q hq2, ← hq]
  simp [List.getElem?_eq_getElem hq2]
theorem below_drewN {B : Nat} {w w' : World} (h : Below B w w') (n : Nat) : Below B w (w'.drewN n) := ⟨h.os, h.tape, h.output, h.size, h.block⟩
end Go.Proofs.Ybulkdjhw.A
