import Derived.Test.YbulkdjikLaw
import Derived.WalkKit
import Derived.ProofKit
import Derived.OpenShut
import Derived.ShutString
import Derived.ChangeOld
import Derived.Below
namespace Go.Proofs.Ybulkdjik.lawS5522CWhole
open Go.ChangeShapes Go.WideShapes Go.ChangeAt Go.RowKit
open Go.ChangeMaps (open_string shut_string)
set_option linter.unusedVariables false

theorem own : ownKnob Yba.prog.godebug = none := by kernel_rfl
theorem laidOut : laidOutB Yba.prog = true := by kernel_rfl

/-- WHAT THE WALK IS TOLD OF A SLICE OF INTEGERS THAT CAME IN: it is nil; or it leads to a row of 'cap' cells, the numbers 'zs' (the first 'len' are its elements, the rest its spare room), each fitting its kind. -/
def IsRow (k : IntKind) (w : World) (a : Option Addr) (len cap : Nat) (zs : List Int) : Prop :=
  (a = none ∧ len = 0 ∧ cap = 0 ∧ zs = []) ∨
  ∃ x, a = some x ∧ len ≤ cap ∧ cap ≤ maxLen ∧ zs.length = cap ∧ (∀ i, i < zs.length → w.cell? (x.add i) = some (.int k (zs.getD i 0))) ∧ ∀ n ∈ zs, (Lit.int k n).wf = true

/-! ### STEP 1: THE WALK: the Go text returns true, AND WRITES NOTHING THAT WAS THERE: 'Below w.heap.size w w'' (Derived/Below.lean: '.refl', '.alloc', '.drew', '.setCell' at a new block, '.trans'). Open each 'IsRow' by 'rcases' AHEAD of 'go_enter'; part every test ahead of the walk. -/
theorem walk (a0 : ByteArray) (a1 : Int) (a2 : Option Addr) (len2 cap2 : Nat) (z2 : List Int) (w : World) (w0 : a0.size ≤ maxLen) (w1 : (Lit.int .i64 a1).wf = true) (w2 : IsRow .u8 w a2 len2 cap2 z2) :
    Calls Yba.prog 3 #[.string a0, .int .i64 a1, .slice a2 len2 cap2] w fun e w' => e = .returned (.bool true) ∧ Below w.heap.size w w' := by
  have hlo := bounds_i64 w1
  have all : ∀ (lawA : ∀ (sep : ByteArray) (size : Int), sep.toList.isEmpty = false → 0 < sep.size → sep.size ≤ 1048576 → (-9223372036854775808 ≤ size ∧ size ≤ 9223372036854775807) →
        Calls Yba.prog 3 #[.string sep, .int .i64 size, .slice a2 len2 cap2] w fun e w' => e = .returned (.bool true) ∧ Below w.heap.size w w')
      (lawB : ∀ (size : Int), (size != 0) = true → (-9223372036854775808 ≤ size ∧ size ≤ 9223372036854775807) →
        Calls Yba.prog 3 #[.string { data := #[] }, .int .i64 size, .slice a2 len2 cap2] w fun e w' => e = .returned (.bool true) ∧ Below w.heap.size w w')
      (lawC : Calls Yba.prog 3 #[.string { data := #[] }, .int .i64 0, .slice a2 len2 cap2] w fun e w' => e = .returned (.bool true) ∧ Below w.heap.size w w'), len2 ≤ 1048576 →
        Calls Yba.prog 3 #[.string a0, .int .i64 a1, .slice a2 len2 cap2] w fun e w' => e = .returned (.bool true) ∧ Below w.heap.size w w' := by
    intro lawA lawB lawC hlen
    by_cases hs : (1048576 : Int) < (a0.size : Int)
    · exact law_bigs a0 a1 a2 len2 cap2 w hlen hs (by unfold maxLen at w0; omega)
    · by_cases h0 : a0.size = 0
      · obtain ⟨⟨l⟩⟩ := a0
        have hl : l = [] := List.eq_nil_of_length_eq_zero h0
        subst hl
        by_cases hz : a1 = 0
        · subst hz; exact lawC
        · exact lawB a1 (bne_iff_ne.2 hz) hlo
      · refine lawA a0 a1 ?_ (by omega) (by omega) hlo
        rw [List.isEmpty_eq_false_iff]
        intro h
        rw [ByteArray.toList_eq] at h
        have h2 : a0.data.toList.length = 0 := by rw [h]; rfl
        exact h0 (by simpa using h2)
  rcases w2 with ⟨rfl, rfl, rfl, rfl⟩ | ⟨x, rfl, hl, hm, hz, hc, hwf⟩
  · exact all (fun sep size h1 h2 h3 h4 => law_nilA sep size w h1 h2 h3 h4) (fun size h1 h2 => law_nilB size w h1 h2) (law_nilC w) (by omega)
  · by_cases hbig : (1048576 : Int) < (len2 : Int)
    · exact law_big a0 a1 _ _ _ w hbig
    · by_cases h0 : len2 = 0
      · subst h0
        exact all (fun sep size h1 h2 h3 h4 => law_zeroA x cap2 sep size w h1 h2 h3 h4) (fun size h1 h2 => law_zeroB x cap2 size w h1 h2) (law_zeroC x cap2 w) (by omega)
      · obtain ⟨b, off, rfl, hc'⟩ := ints_at hc (by omega)
        have hcc : ∀ j, j < len2 → w.cell? ⟨b, off + j, none⟩ = some (.int .u8 (z2.getD j 0)) := fun j hj => hc' j (by omega)
        have hr : ∀ j : Nat, 0 ≤ z2[j]?.getD 0 ∧ z2[j]?.getD 0 ≤ 255 := fun j => range_u8 hwf j
        exact all (fun sep size h1 h2 h3 h4 => law_someA b off len2 cap2 z2 sep size w h1 h2 h3 h4 (by omega) (by omega) (by omega) hcc hr) (fun size h1 h2 => law_someB b off len2 cap2 z2 size w h1 h2 (by omega) (by omega) (by omega) hcc hr) (law_someC b off len2 cap2 z2 w (by omega) (by omega) (by omega) hcc hr) (by omega)

/-! ### THE ROW's STEP: WRITTEN OUT: LEAVE IT -/
set_option maxRecDepth 100000 in
theorem lifted (os : Os) (started : os.Started) (H : Type) (enc : TypeId × Value → H) :
    ReturnsInHanded {} Yba.checked os 3 .any (Rows.lawS5522CWholeSpec.pre6 enc Yba.prog Yba.f3 Rows.lawS5522CWholeRow.domain false) (Rows.lawS5522CWholeSpec.post enc Yba.prog Yba.f3 false true false false) := by
  refine returnsInHanded_of_change (C := Yba.checked) own started (by kernel_rfl) Yba.func3
    (ChangeSpec.witness6 (enc := enc) (C := Yba.checked) false ⟨#[], #[.string ByteArray.empty, .int .i64 0, .slice none 0 0], []⟩ 8 (by kernel_rfl) (by kernel_rfl) (by kernel_rfl) (by kernel_rfl)) ?_
  intro W base args ds gs before hval0 hW hcnd _
  have hval : ∀ (j : Nat) t v, Yba.f3.params[j]? = some t → args[j]? = some v → Value.okWide Yba.prog W .any base t v := hval0
  have hW' := hW
  obtain ⟨p, q, hA0, hV, rfl, hfz, hnd⟩ := hW
  have hA : DataW.TrodAll enc Yba.prog W 0 (fun _ => true) true Yba.f3.params.toList args.toList ds p := hA0
  rw [Yba.params3] at hA hval
  obtain ⟨v0, vs0, d0, ds0, p0, q0, hargs, rfl, rfl, h0, r0⟩ := trodAll_cons hA
  obtain ⟨v1, vs1, d1, ds1, p1, q1, rfl, rfl, rfl, h1, r1⟩ := trodAll_cons r0
  obtain ⟨v2, vs2, d2, ds2, p2, q2, rfl, rfl, rfl, h2, r2⟩ := trodAll_cons r1
  obtain ⟨rfl, rfl, rfl⟩ := trodAll_nil r2
  obtain rfl : args = #[v0, v1, v2] := by cases args; simp_all
  obtain ⟨rfl, rfl⟩ := trodVars_none hV
  obtain ⟨a0, rfl, rfl, rfl, w0⟩ := open_string Yba.underlying9 (hval 0 9 v0 rfl rfl) h0
  obtain ⟨a1, rfl, rfl, rfl, w1⟩ := open_int Yba.underlying3 (hval 1 3 v1 rfl rfl) h1
  obtain ⟨a2, len2, cap2, rfl⟩ := okWide_slice Yba.underlying22 (hval 2 22 v2 rfl rfl)
  have k2 := h2
  have lt2 : ∀ x ∈ p2, x.block < W.heap.size := by obtain ⟨m, hm⟩ := k2; exact DataW.trod_lt m _ _ _ hm
  obtain ⟨z2, w2⟩ : ∃ zs, IsRow .u8 W a2 len2 cap2 zs := by
    obtain ⟨fuel, hf⟩ := h2
    rcases open_ints Yba.underlying22 Yba.underlying5 (by kernel_rfl) hf with ⟨hcs, _⟩ | ⟨x, l, c, zs, hcs, _, hl, hm, hz, _, hcell, hwz⟩
    · simp [Value.cells] at hcs
      obtain ⟨rfl, rfl, rfl⟩ := hcs
      exact ⟨[], .inl ⟨rfl, rfl, rfl, rfl⟩⟩
    · simp [Value.cells] at hcs
      obtain ⟨rfl, rfl, rfl⟩ := hcs
      exact ⟨zs, .inr ⟨_, rfl, hl, hm, by simpa using hz, hcell, hwz⟩⟩
  clear hA0 hval0
  refine (walk a0 a1 a2 len2 cap2 z2 W w0 w1 w2).mono fun e W' ⟨he, bel⟩ => ?_
  subst he
  exact ⟨_, rfl, _, _, _, [], _, [], hW', trodAll_mk1 (shut_bool Yba.underlying4 _), (trodAll_cons_mk (shut_string Yba.underlying9 w0) (trodAll_cons_mk (shut_int Yba.underlying3 w1) (trodAll_cons_mk (Below.trod laidOut (by kernel_rfl) (of_decide_eq_true (by kernel_rfl)) k2 bel lt2) trodAll_mk0))), rfl, bel.frame _, fun h => by cases h⟩

theorem over : Rows.lawS5522CWholeRow.holds Yba.pinned (OpenSpec.ofChange Rows.lawS5522CWholeSpec) :=
  OpenClaim.holds_of_wide 3 Yba.f3 rfl rfl rfl rfl rfl rfl rfl ⟨rfl, rfl, rfl, rfl, rfl⟩ rfl rfl rfl rfl rfl (by kernel_rfl) Yba.func3 (by kernel_rfl)
    (of_decide_eq_true (by kernel_rfl)) (by unfold Func.isWrapper; first | (rw [if_pos (by decide +kernel)]; kernel_rfl) | (rw [if_neg (by decide +kernel)]; exact ⟨rfl, rfl⟩))
    (fun os started H enc _ => lifted os started H enc)

/-- ████ THE STATEMENT ████ -/
theorem proved : Rows.LawS5522CWholeSaid := over
#print axioms proved
end Go.Proofs.Ybulkdjik.lawS5522CWhole
