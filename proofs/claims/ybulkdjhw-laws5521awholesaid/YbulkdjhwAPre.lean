import Derived.Test.YbulkdjhwAState
import Derived.WalkKit
import Derived.WalkSpells
import Derived.BigQuiet
import Derived.Deep.QuietTactic
import Derived.Laws.CopyOwn
import Derived.Laws.ResultCell
import Derived.Outline
import Derived.Maps.OwnSet
namespace Go.Proofs.Ybulkdjhw.A
open Go.RowKit
set_option linter.unusedVariables false
theorem vu_zero (c x : Tab) (vc vx : Nat → Value) : vu c x vc vx 0 = nilV := by funext i; simp [vu]
theorem cntA_zero (c x : Tab) : cntA c x 0 = #[.int .i64 0, .int .i64 0, .int .i64 0, .int .i64 0, .int .i64 0, .int .i64 0, .int .i64 0, .int .i64 0, .int .i64 0, .int .i64 0, .int .i64 0, .int .i64 0] := rfl
theorem useSt_start (w3 : World) (c x : Tab) (vc vx : Nat → Value) : UseSt w3 (((w3.alloc (.cells (idxA nilV) 28)).alloc (.cells (hasA tab0) 26)).alloc (.cells (cntA c x 0) 32)) w3.heap.size c x vc vx 0 := by
  obtain ⟨h1, h2, h3⟩ := three_blocks w3 (.cells (idxA nilV) 28) (.cells (hasA tab0) 26) (.cells (cntA c x 0) 32)
  refine ⟨by rw [vu_zero]; exact h1, by rw [tk_zero]; exact h2, h3, (((Below.refl _ _).alloc (Nat.le_refl _) _).alloc (by simp) _).alloc (by simp; omega) _⟩
theorem useT_hi {c x : Tab} {k : Nat} (h : ¬ k < 9) : useT c x k = none := by unfold useT; rw [if_neg h]

/-- A row of runes in a block above lo and below B. -/
def RunRow (w : World) (lo B : Nat) (v : Value) (L : List Int) : Prop :=
  ∃ g cap, v = .slice (some ⟨g, 0, none⟩) L.length cap ∧ lo < g ∧ g < B ∧ ∀ j, j < L.length → w.cell? ⟨g, j, none⟩ = some (.int .i32 (L.getD j 0))
theorem RunRow.below {w w' : World} {lo B B' : Nat} {v : Value} {L : List Int} (h : RunRow w lo B v L) (hb : Below B w w') (hB : B ≤ B') : RunRow w' lo B' v L := by
  obtain ⟨g, cap, hv, h1, h2, hc⟩ := h
  exact ⟨g, cap, hv, h1, by omega, fun j hj => (hb.cell (p := ⟨g, j, none⟩) h2).trans (hc j hj)⟩
theorem runRow_of {w : World} {B lo : Nat} {v : Value} {L : List Int} (h : RowR w B v L) (hn : v ≠ .slice none 0 0) (hlo : lo < B) : RunRow w lo w.heap.size v L := by
  rcases h.2 with ⟨hv, _⟩ | ⟨g, cap, cur, hv, hb, hg, _⟩
  · exact absurd hv hn
  · refine ⟨g, cap, hv, by omega, lt_of_block hg, fun j hj => ?_⟩
    rw [hv] at h
    rw [h.cellAt j (by omega)]
    simp [List.getElem?_eq_getElem hj]
structure ExpSt (w4 wr : World) (E : Nat) (c x : Tab) (ve : Nat → Value) (k : Nat) : Prop where
  ep : wr.heap[E]? = some (.cells (idxA ve) 35 (0, 0))
  rows : ∀ i, i < k → RunRow wr E wr.heap.size (ve i) (ex c x i)
  be : Below E w4 wr
theorem ExpSt.lt {w4 wr : World} {E : Nat} {c x : Tab} {ve : Nat → Value} {k : Nat} (h : ExpSt w4 wr E c x ve k) : E < wr.heap.size := lt_of_block h.ep
theorem expSt_start (w4 : World) (c x : Tab) : ExpSt w4 (w4.alloc (.cells (idxA nilV) 35)) w4.heap.size c x nilV 0 :=
  ⟨heap_alloc_new w4 _, fun i hi => (by omega), (Below.refl _ _).alloc (Nat.le_refl _) _⟩
theorem ExpSt.step {w4 wr w2 : World} {E : Nat} {c x : Tab} {ve : Nat → Value} {k : Nat} (h : ExpSt w4 wr E c x ve k) (hk : k < 12) (hb : Below wr.heap.size wr w2) {v : Value} (hv : RunRow w2 E w2.heap.size v (ex c x k)) :
    ExpSt w4 (w2.setCell ⟨E, k, none⟩ v) E c x (updV ve k v) (k + 1) := by
  have hlt := h.lt
  have b := (hb.block E hlt).trans h.ep
  have sz : (w2.setCell ⟨E, k, none⟩ v).heap.size = w2.heap.size := by simp [World.setCell]
  have keep : ∀ {u : Value} {L : List Int}, RunRow w2 E w2.heap.size u L → RunRow (w2.setCell ⟨E, k, none⟩ v) E (w2.setCell ⟨E, k, none⟩ v).heap.size u L := by
    rintro u L ⟨g, cap, hu, h1, h2, hc⟩
    refine ⟨g, cap, hu, h1, by rw [sz]; exact h2, fun j hj => ?_⟩
    rw [World.cell?_of_block (w := w2) (a := ⟨g, j, none⟩) (Below.heap_setCell w2 ⟨E, k, none⟩ v g (show g ≠ E by omega))]
    exact hc j hj
  refine ⟨?_, fun i hi => ?_, (h.be.trans (hb.mono (by omega))).setCell (Nat.le_refl _) _⟩
  · rw [heap_setCell_same _ _ k _ 35 v b, idxA_set _ k v hk]
  · by_cases e : i = k
    · subst e; simp only [updV, if_true]; exact keep hv
    · simp only [updV, if_neg e]
      exact keep ((h.rows i (by omega)).below hb hb.size)
/-- What is used at a mapped place. -/
theorem use_row {w3 wr : World} {A U : Nat} {c x : Tab} {vc vx : Nat → Value} (hB : Base wr A U c x vc vx) {k : Nat} (hk : k < 12) {l : List Nat} (hu : useT c x k = some l) : IdxRow wr U (vu c x vc vx 12 k) l := by
  unfold vu
  rw [if_pos ⟨hk, by rw [hu]; rfl⟩]
  unfold useT at hu
  split at hu
  · cases hck : c k with
    | some l' => rw [hck] at hu; cases hu; exact hB.cR k l hck
    | none => rw [hck] at hu; exact hB.xR k l hu
  · cases hu
theorem tk12 (t : Tab) (k : Nat) (hk : k < 12) : tk t 12 k = t k := by unfold tk; rw [if_pos hk]
theorem info26s : (Yba.prog.info? 26).map (·.size) = some 12 := by kernel_rfl
theorem info28s : (Yba.prog.info? 28).map (·.size) = some 12 := by kernel_rfl
theorem hasA_size (t : Tab) : (Yba.prog.info? 26).map (·.size) = some (hasA t).size := by rw [info26s]; simp [hasA]
theorem idxA_size (v : Nat → Value) : (Yba.prog.info? 28).map (·.size) = some (idxA v).size := by rw [info28s]; simp [idxA]
theorem IdxRow.mono {w : World} {B B' : Nat} {v : Value} {l : List Nat} (h : IdxRow w B v l) (hb : B ≤ B') : IdxRow w B' v l := by
  obtain ⟨g, cap, hv, hg, hc⟩ := h
  exact ⟨g, cap, hv, by omega, hc⟩
theorem Targets.mono {w : World} {B B' : Nat} {v : Value} {l : List Nat} (h : Targets w B v l) (hb : B ≤ B') : Targets w B' v l := by
  obtain ⟨g, cap, hv, hg, hc⟩ := h
  exact ⟨g, cap, hv, by omega, hc⟩
theorem RowR.keep {w w' : World} {B : Nat} {v : Value} {L : List Int} (h : RowR w B v L) (hb : Below w.heap.size w w') : RowR w' B v L := by
  refine ⟨h.1, ?_⟩
  rcases h.2 with ⟨hv, hn⟩ | ⟨g, cap, cur, hv, hB, hg, q⟩
  · exact .inl ⟨hv, hn⟩
  · exact .inr ⟨g, cap, cur, hv, hB, (hb.block g (lt_of_block hg)).trans hg, q⟩
/-- The slice that came in: its runes. -/
def OutRow (w : World) (lim : Nat) (a : Option Addr) (len : Nat) (L : List Int) : Prop :=
  L.length = len ∧ ((a = none ∧ len = 0) ∨ ∃ x, a = some x ∧ (len = 0 ∨ ∃ b o, x = ⟨b, o, none⟩ ∧ b < lim ∧ ∀ j, j < len → w.cell? ⟨b, o + j, none⟩ = some (.int .i32 (L.getD j 0))))
theorem OutRow.below {w w' : World} {lim : Nat} {a : Option Addr} {len : Nat} {L : List Int} (h : OutRow w lim a len L) (hb : Below lim w w') : OutRow w' lim a len L := by
  refine ⟨h.1, ?_⟩
  rcases h.2 with h | ⟨x, ha, h0 | ⟨b, o, hx, hl, hc⟩⟩
  · exact .inl h
  · exact .inr ⟨x, ha, .inl h0⟩
  · exact .inr ⟨x, ha, .inr ⟨b, o, hx, hl, fun j hj => (hb.cell (p := ⟨b, o + j, none⟩) hl).trans (hc j hj)⟩⟩
theorem clone_any (a : Option Addr) (len cap lim : Nat) (L : List Int) (w : World) (hm : len ≤ 1048576) (h : OutRow w lim a len L) (hcap : a = none → cap = 0) :
    Calls Yba.prog 10 #[.slice a len cap] w fun e w' => ∃ v, e = .returned v ∧ RowR w' w.heap.size v L ∧ Below w.heap.size w w' := by
  rcases h.2 with ⟨ha, h0⟩ | ⟨x, ha, hx⟩
  · subst ha
    subst h0
    rw [hcap rfl]
    have hL : L = [] := List.eq_nil_of_length_eq_zero h.1
    subst hL
    refine (clone_nil w).mono ?_
    rintro e w' ⟨rfl, rfl⟩
    exact ⟨_, rfl, World.ownsRow_nil _ _ _ _, Below.refl _ _⟩
  · subst ha
    refine (clone_some x len cap L w hm (by rw [h.1]; exact Nat.le_refl _) (fun j hj => ?_)).mono ?_
    · rcases hx with h0 | ⟨b, o, rfl, hl, hc⟩
      · omega
      · rw [Addr.add_lit]; exact hc j hj
    · rintro e w' ⟨g, cap', rfl, hown, hB⟩
      refine ⟨_, rfl, ?_, hB⟩
      rw [List.take_of_length_le (by rw [h.1]; exact Nat.le_refl _)] at hown
      have e := h.1
      subst e
      exact hown
/-- What the normalizer and the maps are. -/
structure Norm (w : World) (nb : Nat) (mc mx : Option Nat) (c x : Tab) (vs1 vs2 : Nat → Value) : Prop where
  hnb : nb < w.heap.size
  nm : w.cell? ⟨nb, 1, none⟩ = some (.map mc)
  hmc : MapIs w w.heap.size mc c vs1
  hmx : MapIs w w.heap.size mx x vs2
def DecAt (wq : World) (nb : Nat) (mx : Option Nat) (r : Int) (Lx : List Int) : Prop :=
  ∀ (v : Value) (L : List Int) (B : Nat) (w : World), Below wq.heap.size wq w → wq.heap.size ≤ B → B ≤ w.heap.size → RowR w B v L → L.length ≤ 1048576 →
    Calls Yba.prog 11 #[.pointer (some ⟨nb, 0, none⟩), v, .int .i32 r, .map mx] w fun e w' => ∃ v', e = .returned v' ∧ RowR w' B v' (L ++ Lx) ∧ Below B w w'
theorem decAt_hangul {wq : World} {nb : Nat} {mx : Option Nat} {r : Int} (hr : isH r = true) : DecAt wq nb mx r (jamoL r) :=
  fun v L B w _ _ hB hv hl => dec_hangul r _ _ B v L w hr hB hv (by omega)
theorem decAt_miss {wq : World} {nb : Nat} {mc mx : Option Nat} {c x : Tab} {vs1 vs2 : Nat → Value} (h : Norm wq nb mc mx c x vs1 vs2) {r : Int} (hr : isH r = false) (h0 : -2147483648 ≤ r) (h1 : r ≤ 2147483647) (ha : ∀ i, i < 12 → al i ≠ r) : DecAt wq nb mx r [r] :=
  fun v L B w hb _ hB hv hl => dec_miss r nb mc mx c x vs1 vs2 B v L w hr h0 h1 ((h.hmc.below hb).miss h0 h1 ha) ((h.hmx.below hb).miss h0 h1 ha) ((hb.cell (p := ⟨nb, 1, none⟩) h.hnb).trans h.nm) hB hv (by omega)
theorem decAt_alpha {wq : World} {nb : Nat} {mc mx : Option Nat} {c x : Tab} {vs1 vs2 : Nat → Value} (h : Norm wq nb mc mx c x vs1 vs2) (hc : c.ok) (hx : x.ok) {k : Nat} (hk : k < 12) (hle : (ex c x k).length ≤ 65536) : DecAt wq nb mx (al k) (ex c x k) :=
  fun v L B w hb hq hB hv hl => dec_alpha c x hc hx nb mc mx vs1 vs2 B (by have := h.hnb; omega) k hk v L w ((hb.cell (p := ⟨nb, 1, none⟩) h.hnb).trans h.nm) ((h.hmc.below hb).mono hq) ((h.hmx.below hb).mono hq) hB hv (by omega)
end Go.Proofs.Ybulkdjhw.A
