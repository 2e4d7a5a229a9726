import Derived.Test.YbulkdjhwALaw
import Derived.Test.YbulkdjhwRows
import Derived.WalkKit
import Derived.ProofKit
import Derived.OpenShut
import Derived.ShutString
import Derived.ChangeOld
import Derived.Below
import Derived.SizedLaws
import Derived.Deep.SlicePairs
import Derived.Deep.Slices
import Derived.WalkSpells
namespace Go.Proofs.Ybulkdjhw.A
open Go.ChangeShapes Go.WideShapes Go.ChangeAt Go.RowKit
set_option linter.unusedVariables false
theorem cell_lt {w : World} {a : Addr} {v : Value} (h : w.cell? a = some v) : a.block < w.heap.size := by
  by_cases hn : a.block < w.heap.size
  · exact hn
  · have h0 : w.heap[a.block]? = none := Array.getElem?_eq_none (by omega)
    simp [World.cell?, h0] at h
theorem u8_bd {n : Int} (h : (Lit.int .u8 n).wf = true) : 0 ≤ n ∧ n ≤ 255 := by
  have := range_u8 (zs := [n]) (by simpa using h) 0
  simpa using this
/-- A slice of bytes inside an entry. -/
theorem open_bytes {H : Type} {enc : TypeId × Value → H} {W : World} {fuel : Nat} {v : Value} {x : DataW H × List MemPlace} (h : DataW.trod enc Yba.prog W 0 (fun _ => true) true fuel 51 [v] = some x) :
    ∃ (a : Option Addr) (cap : Nat) (bs : List Int), v = .slice a bs.length cap ∧ BytesAt W W.heap.size a bs ∧ bs.length ≤ 9223372036854775807 ∧ ∀ q : Nat, 0 ≤ bs[q]?.getD 0 ∧ bs[q]?.getD 0 ≤ 255 := by
  rcases open_ints Yba.underlying51 Yba.underlying5 (by kernel_rfl) h with ⟨hcs, _⟩ | ⟨a, len, cap, zs, hcs, _, hl, hm, hz, _, hcell, hwz⟩
  · simp at hcs
    exact ⟨none, 0, [], hcs, .inl rfl, by simp, fun q => by simp⟩
  · simp at hcs
    simp only [if_true] at hz
    have hlen : (zs.take len).length = len := by simp; omega
    refine ⟨some a, cap, zs.take len, by rw [hlen]; exact hcs, ?_, by rw [hlen]; unfold maxLen at hm; omega, fun q => ?_⟩
    · by_cases h0 : len = 0
      · left; rw [hlen]; exact h0
      · right
        obtain ⟨b, off, rfl, hc⟩ := ints_at hcell (by omega)
        refine ⟨b, off, rfl, ?_, fun q hq => ?_⟩
        · exact cell_lt (hc 0 (by omega))
        · rw [hlen] at hq
          rw [hc q (by omega)]
          simp [hq]
    · rw [List.getElem?_take]
      split
      · cases hq : zs[q]? with
        | none => simp
        | some n => exact u8_bd (hwz n (List.mem_of_getElem? hq))
      · simp
/-- A slice of entries. -/
theorem open_ents {H : Type} {enc : TypeId × Value → H} {W : World} {fuel : Nat} {a : Option Addr} {len cap : Nat} {x : DataW H × List MemPlace} (h : DataW.trod enc Yba.prog W 0 (fun _ => true) true fuel 23 [.slice a len cap] = some x) :
    (∃ es, EntRow W W.heap.size a len es ∧ ∀ e ∈ es, 0 ≤ e.1) ∧ (len = 0 ∨ ∃ el sp, x.1 = .slice el sp ∧ el.length = len) := by
  rcases Deep.open_slice_pairs Yba.underlying23 Yba.underlying58 (by kernel_rfl) (by kernel_rfl) (by kernel_rfl) (by kernel_rfl) (by kernel_rfl) h with ⟨hcs, _⟩ | ⟨b, l, c, m, n, V0, V1, D0, D1, P0, P1, hcs, _, hl, hm, hmm, hx, hcell⟩
  · simp at hcs
    obtain ⟨rfl, rfl, rfl⟩ := hcs
    exact ⟨⟨[], ⟨rfl, .inl rfl⟩, by simp⟩, .inl rfl⟩
  · simp at hcs
    obtain ⟨rfl, rfl, rfl⟩ := hcs
    simp only [if_true] at hmm
    refine ⟨?_, .inr ⟨_, _, by rw [hx], by simp⟩⟩
    by_cases h0 : len = 0
    · exact ⟨[], ⟨by simp [h0], .inl h0⟩, by simp⟩
    · obtain ⟨bb, off, spot⟩ := b
      have hc0 := (hcell 0 (by omega)).1
      have hspot : spot = none := by simpa [Addr.add] using World.cell?_spot hc0
      subst hspot
      have hlt : bb < W.heap.size := cell_lt hc0
      have each : ∀ i, i < len → ∃ e : Ent, EntAt W W.heap.size bb (off + i * 2) e := by
        intro i hi
        obtain ⟨g0, g1, t0, t1⟩ := hcell i (by omega)
        obtain ⟨k, hk, _, hwf⟩ := DataW.trod_int Yba.underlying5 t0
        obtain ⟨ab, capb, bs, hv, hb, hbl, hbr⟩ := open_bytes t1
        simp at hk
        rw [Addr.add_lit] at g0 g1
        exact ⟨(k, bs), (u8_bd hwf).1, (u8_bd hwf).2, hbr, hbl, by rw [g0, hk], ab, capb, by rw [← Nat.add_assoc] at g1; rw [g1, hv], hb⟩
      obtain ⟨f, hf⟩ := Deep.choose_lt each
      refine ⟨(List.range len).map f, ⟨by simp, .inr ⟨bb, off, rfl, hlt, fun j hj => ⟨f j, by simp [hj], hf j hj⟩⟩⟩, fun e he => ?_⟩
      obtain ⟨j, hj, rfl⟩ := List.mem_map.1 he
      exact (hf j (by simpa using hj)).1
/-- The runes that came in. -/
theorem open_out {H : Type} {enc : TypeId × Value → H} {W : World} {fuel : Nat} {a : Option Addr} {len cap : Nat} {x : DataW H × List MemPlace} (h : DataW.trod enc Yba.prog W 0 (fun _ => true) true fuel 22 [.slice a len cap] = some x) :
    ∃ L, OutRow W W.heap.size a len L ∧ (a = none → cap = 0) := by
  rcases open_ints Yba.underlying22 Yba.underlying21 (by kernel_rfl) h with ⟨hcs, _⟩ | ⟨b, l, c, zs, hcs, _, hl, hm, hz, _, hcell, hwz⟩
  · simp at hcs
    obtain ⟨rfl, rfl, rfl⟩ := hcs
    exact ⟨[], ⟨rfl, .inl ⟨rfl, rfl⟩⟩, fun _ => rfl⟩
  · simp at hcs
    obtain ⟨rfl, rfl, rfl⟩ := hcs
    simp only [if_true] at hz
    have hlen : (zs.take len).length = len := by simp; omega
    refine ⟨zs.take len, ⟨hlen, .inr ⟨b, rfl, ?_⟩⟩, fun h => by cases h⟩
    by_cases h0 : len = 0
    · exact .inl h0
    · right
      obtain ⟨bb, off, rfl, hc⟩ := ints_at hcell (by omega)
      refine ⟨bb, off, rfl, cell_lt (hc 0 (by omega)), fun j hj => ?_⟩
      rw [hc j (by omega)]
      simp [hj]
theorem own : ownKnob Yba.prog.godebug = none := by kernel_rfl
theorem laidOut : laidOutB Yba.prog = true := by kernel_rfl
theorem bytes58 : Yba.prog.bytesOf 58 = 32 := by kernel_rfl
theorem i32_bd {n : Int} (h : (Lit.int .i32 n).wf = true) : -2147483648 ≤ n ∧ n ≤ 2147483647 := by
  have := range_i32 (zs := [n]) (by simpa using h) 0
  simpa using this
theorem walk (ao : Option Addr) (lo co : Nat) (raw : Int) (useRaw : Bool) (pick : Int) (ac ax : Option Addr) (lc cc lx cx : Nat) (nil : Bool) (w : World) (LO : List Int) (esC esX : List Ent)
    (hraw : (Lit.int .i32 raw).wf = true) (hpick : (Lit.int .u8 pick).wf = true) (hOut : OutRow w w.heap.size ao lo LO) (hco : ao = none → co = 0)
    (hC : EntRow w w.heap.size ac lc esC) (hpC : ∀ e ∈ esC, 0 ≤ e.1) (hX : EntRow w w.heap.size ax lx esX) (hpX : ∀ e ∈ esX, 0 ≤ e.1) (hlc : lc ≤ 1099511627776 * 16) (hlx : lx ≤ 1099511627776 * 16) :
    Calls Yba.prog 3 #[.slice ao lo co, .int .i32 raw, .bool useRaw, .int .u8 pick, .slice ac lc cc, .slice ax lx cx, .bool nil] w fun e w' => e = .returned (.bool true) ∧ Below w.heap.size w w' := by
  have hr := i32_bd hraw
  have hp := u8_bd hpick
  obtain ⟨p, rfl⟩ : ∃ p : Nat, pick = (p : Int) := ⟨pick.toNat, by omega⟩
  by_cases h1 : 1048576 < lo
  · exact law_big ao lo co raw useRaw p ac ax lc cc lx cx nil w h1
  · by_cases h2 : 1048576 < lc + lx
    · exact law_many ao lo co raw useRaw p ac ax lc cc lx cx nil w (by omega) h2 (by omega) (by omega)
    · cases nil with
      | false => exact law_compat ao lo co raw useRaw p ac ax lc cc lx cx esC esX w hr.1 hr.2 (by omega) LO hOut hco (by omega) (by omega) hC hX hpC hpX
      | true => exact law_nil ao lo co raw useRaw p ac ax lc cc lx cx esC w hr.1 hr.2 (by omega) LO hOut hco (by omega) (by omega) hC hpC

/-! ### THE ROW's STEP -/
set_option maxRecDepth 100000 in
theorem lifted (os : Os) (started : os.Started) (H : Type) (enc : TypeId × Value → H) :
    ReturnsInHanded {} Yba.checked os 3 .any (Rows.lawS5521AWholeSpec.pre6 enc Yba.prog Yba.f3 Rows.lawS5521AWholeRow.domain false) (Rows.lawS5521AWholeSpec.post enc Yba.prog Yba.f3 false true false false) := by
  refine returnsInHanded_of_change_sized (C := Yba.checked) own started (by kernel_rfl) Yba.func3
    (ChangeSpec.witness6 (enc := enc) (C := Yba.checked) false ⟨#[], #[.slice none 0 0, .int .i32 0, .bool false, .int .u8 0, .slice none 0 0, .slice none 0 0, .bool false], []⟩ 8 (by kernel_rfl) (by kernel_rfl) (by kernel_rfl) (by kernel_rfl)) ?_
  intro W base args ds gs before hval0 hW hcnd hsz0 _
  have hval : ∀ (j : Nat) t v, Yba.f3.params[j]? = some t → args[j]? = some v → Value.okWide Yba.prog W .any base t v := hval0
  have hsz : (DataW.weightsEach Yba.prog (Yba.f3.params.toList ++ Rows.lawS5521AWholeSpec.plain.varTypes Yba.prog) (ds ++ gs)).all (· ≤ reachBytes) = true := hsz0
  have hW' := hW
  obtain ⟨p, q, hA0, hV, rfl, hfz, hnd⟩ := hW
  have hA : DataW.TrodAll enc Yba.prog W 0 (fun _ => true) true Yba.f3.params.toList args.toList ds p := hA0
  rw [Yba.params3] at hA hval hsz
  obtain ⟨v0, vs0, d0, ds0, p0, q0, hargs, rfl, rfl, h0, r0⟩ := trodAll_cons hA
  obtain ⟨v1, vs1, d1, ds1, p1, q1, rfl, rfl, rfl, h1, r1⟩ := trodAll_cons r0
  obtain ⟨v2, vs2, d2, ds2, p2, q2, rfl, rfl, rfl, h2, r2⟩ := trodAll_cons r1
  obtain ⟨v3, vs3, d3, ds3, p3, q3, rfl, rfl, rfl, h3, r3⟩ := trodAll_cons r2
  obtain ⟨v4, vs4, d4, ds4, p4, q4, rfl, rfl, rfl, h4, r4⟩ := trodAll_cons r3
  obtain ⟨v5, vs5, d5, ds5, p5, q5, rfl, rfl, rfl, h5, r5⟩ := trodAll_cons r4
  obtain ⟨v6, vs6, d6, ds6, p6, q6, rfl, rfl, rfl, h6, r6⟩ := trodAll_cons r5
  obtain ⟨rfl, rfl, rfl⟩ := trodAll_nil r6
  obtain rfl : args = #[v0, v1, v2, v3, v4, v5, v6] := by cases args; simp_all
  obtain ⟨rfl, rfl⟩ := trodVars_none hV
  obtain ⟨ao, lo, co, rfl⟩ := okWide_slice Yba.underlying22 (hval 0 22 v0 rfl rfl)
  obtain ⟨raw, rfl, rfl, rfl, w1⟩ := open_int Yba.underlying21 (hval 1 21 v1 rfl rfl) h1
  obtain ⟨ur, rfl, rfl, rfl⟩ := open_bool Yba.underlying4 (hval 2 4 v2 rfl rfl) h2
  obtain ⟨pick, rfl, rfl, rfl, w3⟩ := open_int Yba.underlying5 (hval 3 5 v3 rfl rfl) h3
  obtain ⟨ac, lc, cc, rfl⟩ := okWide_slice Yba.underlying23 (hval 4 23 v4 rfl rfl)
  obtain ⟨ax, lx, cx, rfl⟩ := okWide_slice Yba.underlying23 (hval 5 23 v5 rfl rfl)
  obtain ⟨nl, rfl, rfl, rfl⟩ := open_bool Yba.underlying4 (hval 6 4 v6 rfl rfl) h6
  have k0 := h0
  have k4 := h4
  have k5 := h5
  have lt0 : ∀ x ∈ p0, x.block < W.heap.size := by obtain ⟨m, hm⟩ := k0; exact DataW.trod_lt m _ _ _ hm
  have lt4 : ∀ x ∈ p4, x.block < W.heap.size := by obtain ⟨m, hm⟩ := k4; exact DataW.trod_lt m _ _ _ hm
  have lt5 : ∀ x ∈ p5, x.block < W.heap.size := by obtain ⟨m, hm⟩ := k5; exact DataW.trod_lt m _ _ _ hm
  obtain ⟨LO, hOut, hco⟩ : ∃ L, OutRow W W.heap.size ao lo L ∧ (ao = none → co = 0) := by
    obtain ⟨fuel, hf⟩ := h0
    exact open_out hf
  obtain ⟨⟨esC, hC, hpC⟩, hC2⟩ : (∃ es, EntRow W W.heap.size ac lc es ∧ ∀ e ∈ es, 0 ≤ e.1) ∧ (lc = 0 ∨ ∃ el sp, d4 = .slice el sp ∧ el.length = lc) := by
    obtain ⟨fuel, hf⟩ := h4
    exact open_ents hf
  obtain ⟨⟨esX, hX, hpX⟩, hX2⟩ : (∃ es, EntRow W W.heap.size ax lx es ∧ ∀ e ∈ es, 0 ≤ e.1) ∧ (lx = 0 ∨ ∃ el sp, d5 = .slice el sp ∧ el.length = lx) := by
    obtain ⟨fuel, hf⟩ := h5
    exact open_ents hf
  have hlc : lc ≤ 1099511627776 * 16 := by
    rcases hC2 with h | ⟨el, sp, he, hl⟩
    · omega
    · have := sized_slice hsz (j := 4) (t := 23) (e := 58) (elems := el) (spare := sp) rfl (by rw [he]; rfl) Yba.underlying23
      rw [bytes58] at this
      simp only [reachBytes] at this
      omega
  have hlx : lx ≤ 1099511627776 * 16 := by
    rcases hX2 with h | ⟨el, sp, he, hl⟩
    · omega
    · have := sized_slice hsz (j := 5) (t := 23) (e := 58) (elems := el) (spare := sp) rfl (by rw [he]; rfl) Yba.underlying23
      rw [bytes58] at this
      simp only [reachBytes] at this
      omega
  clear hA0 hval0
  refine (walk ao lo co raw ur pick ac ax lc cc lx cx nl W LO esC esX w1 w3 hOut hco hC hpC hX hpX hlc hlx).mono fun e W' ⟨he, bel⟩ => ?_
  subst he
  have t0 := Below.trod laidOut (by kernel_rfl) (of_decide_eq_true (by kernel_rfl)) k0 bel lt0
  have t4 := Below.trod laidOut (by kernel_rfl) (of_decide_eq_true (by kernel_rfl)) k4 bel lt4
  have t5 := Below.trod laidOut (by kernel_rfl) (of_decide_eq_true (by kernel_rfl)) k5 bel lt5
  exact ⟨_, rfl, _, _, _, [], _, [], hW', trodAll_mk1 (shut_bool Yba.underlying4 _), (trodAll_cons_mk t0 (trodAll_cons_mk (shut_int Yba.underlying21 w1) (trodAll_cons_mk (shut_bool Yba.underlying4 _) (trodAll_cons_mk (shut_int Yba.underlying5 w3) (trodAll_cons_mk t4 (trodAll_cons_mk t5 (trodAll_cons_mk (shut_bool Yba.underlying4 _) trodAll_mk0))))))), rfl, bel.frame _, fun h => by cases h⟩

theorem over : Rows.lawS5521AWholeRow.holds Yba.pinned (OpenSpec.ofChange Rows.lawS5521AWholeSpec) :=
  OpenClaim.holds_of_wide 3 Yba.f3 rfl rfl rfl rfl rfl rfl rfl ⟨rfl, rfl, rfl, rfl, rfl⟩ rfl rfl rfl rfl rfl (by kernel_rfl) Yba.func3 (by kernel_rfl)
    (of_decide_eq_true (by kernel_rfl)) (by unfold Func.isWrapper; first | (rw [if_pos (by decide +kernel)]; kernel_rfl) | (rw [if_neg (by decide +kernel)]; exact ⟨rfl, rfl⟩))
    (fun os started H enc _ => lifted os started H enc)

/-- THE STATEMENT -/
theorem proved : Rows.LawS5521AWholeSaid :=
  over
#print axioms proved
end Go.Proofs.Ybulkdjhw.A
