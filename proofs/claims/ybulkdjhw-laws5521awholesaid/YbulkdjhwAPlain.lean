/- 5521A: the plain functions: no Go in sight. -/
import Derived.WalkKit
namespace Go.Proofs.Ybulkdjhw.A

def alphaL : List Int := [65, 66, 67, 68, 69, 192, 768, 4352, 4449, 44032, 44033, 55203]
def al (i : Nat) : Int := alphaL.getD i 0
def isH (r : Int) : Bool := decide (44032 ≤ r) && decide (r < 55204)
def jamoL (r : Int) : List Int :=
  [4352 + (r - 44032) / 588, 4449 + (r - 44032) % 588 / 28] ++ (if (r - 44032) % 28 = 0 then [] else [4519 + (r - 44032) % 28])

theorem snoc_ind {α : Type} {p : List α → Prop} (h0 : p []) (h1 : ∀ l a, p l → p (l ++ [a])) (l : List α) : p l := by
  have h : ∀ l : List α, p l.reverse := by
    intro l
    induction l with
    | nil => exact h0
    | cons a l ih => rw [List.reverse_cons]; exact h1 _ _ ih
  have := h l.reverse
  rwa [List.reverse_reverse] at this

/-- A table: at each of the twelve places nothing, or the targets (places below it). -/
abbrev Tab := Nat → Option (List Nat)
def Tab.ok (t : Tab) : Prop := ∀ i l, t i = some l → i < 12 ∧ l.length ≤ 4 ∧ ∀ x ∈ l, x < i
def tab0 : Tab := fun _ => none
def Tab.set (t : Tab) (k : Nat) (l : List Nat) : Tab := fun i => if i = k then some l else t i
theorem tab0_ok : tab0.ok := by intro i l h; cases h
theorem Tab.ok.set {t : Tab} (h : t.ok) {k : Nat} {l : List Nat} (hk : k < 12) (hl : l.length ≤ 4) (hx : ∀ x ∈ l, x < k) : (t.set k l).ok := by
  intro i l' h'
  unfold Tab.set at h'
  split at h'
  · rename_i e; subst e; cases h'; exact ⟨hk, hl, hx⟩
  · exact h i l' h'

/-- One entry: a key and its bytes. -/
abbrev Ent := Int × List Int
def tgt (e : Ent) : List Nat := if e.1 % 12 = 0 then [] else (e.2.take 4).map fun b => (b % (e.1 % 12)).toNat
def fillT (t : Tab) (es : List Ent) : Tab := es.foldl (fun t e => t.set (e.1 % 12).toNat (tgt e)) t
theorem tgt_ok (e : Ent) : (tgt e).length ≤ 4 ∧ ∀ x ∈ tgt e, x < (e.1 % 12).toNat := by
  unfold tgt
  split
  · exact ⟨by simp, by simp⟩
  · refine ⟨by simp; omega, fun x hx => ?_⟩
    obtain ⟨b, _, rfl⟩ := List.mem_map.1 hx
    have h1 : 0 < e.1 % 12 := by omega
    have h2 := Int.emod_lt_of_pos b h1
    have h3 := Int.emod_nonneg b (show e.1 % 12 ≠ 0 by omega)
    omega
theorem fillT_ok {t : Tab} (h : t.ok) : ∀ (es : List Ent), (∀ e ∈ es, 0 ≤ e.1) → (fillT t es).ok
  | [], _ => h
  | e :: es, he => by
    show (fillT (t.set (e.1 % 12).toNat (tgt e)) es).ok
    have := tgt_ok e
    exact fillT_ok (h.set (by omega) this.1 this.2) es (fun x hx => he x (by simp [hx]))
theorem fillT_snoc (t : Tab) (es : List Ent) (e : Ent) : fillT t (es ++ [e]) = (fillT t es).set (e.1 % 12).toNat (tgt e) := by simp [fillT]

/-- The table that is used: canonical first, then compatibility; no place from 9 on (Hangul). -/
def useT (c x : Tab) : Tab := fun i => if i < 9 then (match c i with | some l => some l | none => x i) else none

/-- The expansion of place i, given the expansions of the places below. -/
def expOf (c x : Tab) (E : List (List Int)) (i : Nat) : List Int :=
  if i < 9 then (match useT c x i with | some l => l.flatMap fun j => E.getD j [] | none => [al i]) else jamoL (al i)
def exps (c x : Tab) : Nat → List (List Int)
  | 0 => []
  | k + 1 => exps c x k ++ [expOf c x (exps c x k) k]
theorem exps_length (c x : Tab) : ∀ k, (exps c x k).length = k
  | 0 => rfl
  | k + 1 => by simp [exps, exps_length c x k]
theorem exps_getD_lt (c x : Tab) (i : Nat) : ∀ k, i < k → (exps c x k).getD i [] = (exps c x (i + 1)).getD i []
  | 0, h => by omega
  | k + 1, h => by
    by_cases e : i = k
    · subst e; rfl
    · rw [← exps_getD_lt c x i k (by omega)]
      simp only [exps, List.getD_eq_getElem?_getD]
      rw [List.getElem?_append_left (by rw [exps_length]; omega)]
/-- The expansion of place i. -/
def ex (c x : Tab) (i : Nat) : List Int := (exps c x (i + 1)).getD i []
theorem ex_eq (c x : Tab) (i : Nat) : ex c x i = expOf c x (exps c x i) i := by
  unfold ex
  simp only [exps, List.getD_eq_getElem?_getD]
  rw [List.getElem?_append_right (by rw [exps_length]; omega), exps_length]
  simp
theorem exps_getD (c x : Tab) {i k : Nat} (h : i < k) : (exps c x k).getD i [] = ex c x i := exps_getD_lt c x i k h
theorem flatMap_congr' {α β : Type} {f g : α → List β} : ∀ {l : List α}, (∀ a ∈ l, f a = g a) → l.flatMap f = l.flatMap g
  | [], _ => rfl
  | a :: l, h => by simp only [List.flatMap_cons]; rw [h a (by simp), flatMap_congr' fun b hb => h b (by simp [hb])]
/-- What the expansion of a mapped place is: those of its targets, one behind the other. -/
theorem ex_mapped {c x : Tab} (hc : c.ok) (hx : x.ok) {i : Nat} (hi : i < 9) {l : List Nat} (hu : useT c x i = some l) : ex c x i = l.flatMap (ex c x) := by
  rw [ex_eq, expOf, if_pos hi, hu]
  refine flatMap_congr' fun j hj => exps_getD c x ?_
  unfold useT at hu
  rw [if_pos hi] at hu
  split at hu
  · rename_i l' h'; cases hu; exact (hc i l h').2.2 j hj
  · exact (hx i l hu).2.2 j hj
theorem ex_bare {c x : Tab} {i : Nat} (hi : i < 9) (hu : useT c x i = none) : ex c x i = [al i] := by rw [ex_eq, expOf, if_pos hi, hu]
theorem ex_hangul {c x : Tab} {i : Nat} (hi : ¬ i < 9) : ex c x i = jamoL (al i) := by rw [ex_eq, expOf, if_neg hi]
theorem use_ok {c x : Tab} (hc : c.ok) (hx : x.ok) : (useT c x).ok := by
  intro i l h
  unfold useT at h
  split at h
  · split at h
    · rename_i l' h'; cases h; exact hc i l h'
    · exact hx i l h
  · cases h

/-- The counts that the law reckons: held at 65537. -/
def cap1 (n : Nat) : Nat := if 65536 < n then 65537 else n
def cntOf (c x : Tab) (N : List Nat) (i : Nat) : Nat :=
  if i < 9 then (match useT c x i with | some l => l.foldl (fun a j => cap1 (a + N.getD j 0)) 0 | none => 1) else (jamoL (al i)).length
def cnts (c x : Tab) : Nat → List Nat
  | 0 => []
  | k + 1 => cnts c x k ++ [cntOf c x (cnts c x k) k]
theorem cnts_length (c x : Tab) : ∀ k, (cnts c x k).length = k
  | 0 => rfl
  | k + 1 => by simp [cnts, cnts_length c x k]
theorem cnts_getD_lt (c x : Tab) (i : Nat) : ∀ k, i < k → (cnts c x k).getD i 0 = (cnts c x (i + 1)).getD i 0
  | 0, h => by omega
  | k + 1, h => by
    by_cases e : i = k
    · subst e; rfl
    · rw [← cnts_getD_lt c x i k (by omega)]
      simp only [cnts, List.getD_eq_getElem?_getD]
      rw [List.getElem?_append_left (by rw [cnts_length]; omega)]
def cn (c x : Tab) (i : Nat) : Nat := (cnts c x (i + 1)).getD i 0
theorem cn_eq (c x : Tab) (i : Nat) : cn c x i = cntOf c x (cnts c x i) i := by
  unfold cn
  simp only [cnts, List.getD_eq_getElem?_getD]
  rw [List.getElem?_append_right (by rw [cnts_length]; omega), cnts_length]
  simp
theorem cnts_getD (c x : Tab) {i k : Nat} (h : i < k) : (cnts c x k).getD i 0 = cn c x i := cnts_getD_lt c x i k h
theorem cap1_le (n : Nat) : cap1 n ≤ 65537 := by unfold cap1; split <;> omega

/-- The count folded over the first j targets. -/
def cfold (f : Nat → Nat) (l : List Nat) : Nat := l.foldl (fun a j => cap1 (a + f j)) 0
theorem cfold_snoc (f : Nat → Nat) (l : List Nat) (j : Nat) : cfold f (l ++ [j]) = cap1 (cfold f l + f j) := by simp [cfold]
theorem cfold_le (f : Nat → Nat) (l : List Nat) : cfold f l ≤ 65537 := by
  revert l
  refine snoc_ind (by simp [cfold]) fun l j ih => ?_
  rw [cfold_snoc]; exact cap1_le _
theorem cfold_congr {f g : Nat → Nat} (l : List Nat) (h : ∀ j ∈ l, f j = g j) : cfold f l = cfold g l := by
  revert h
  revert l
  refine snoc_ind (fun _ => rfl) fun l j ih h => ?_
  rw [cfold_snoc, cfold_snoc, ih (fun k hk => h k (by simp [hk])), h j (by simp)]
/-- Where the held count is below the lid it is the true length. -/
theorem cfold_true (f : Nat → Nat) (g : Nat → List Int) (l : List Nat) (h : ∀ j ∈ l, f j ≤ 65536 → f j = (g j).length) (hle : cfold f l ≤ 65536) : cfold f l = (l.flatMap g).length ∧ ∀ k, (( l.take k).flatMap g).length ≤ 65536 := by
  revert h hle
  revert l
  refine snoc_ind (fun _ _ => by simp [cfold]) fun l j ih h hle => ?_
  rw [cfold_snoc] at hle ⊢
  have h1 : cfold f l + f j ≤ 65536 := by unfold cap1 at hle; split at hle <;> omega
  have h2 : cap1 (cfold f l + f j) = cfold f l + f j := by unfold cap1; rw [if_neg (by omega)]
  obtain ⟨i1, i2⟩ := ih (fun k hk => h k (by simp [hk])) (by omega)
  have h3 := h j (by simp) (by omega)
  refine ⟨by rw [h2, i1, h3]; simp, fun k => ?_⟩
  by_cases hk : k ≤ l.length
  · rw [List.take_append_of_le_length hk]; exact i2 k
  · rw [List.take_of_length_le (by simp; omega)]; simp only [List.flatMap_append, List.length_append, List.flatMap_cons, List.flatMap_nil, List.append_nil]; omega
theorem cn_mapped {c x : Tab} (hc : c.ok) (hx : x.ok) {i : Nat} (hi : i < 9) {l : List Nat} (hu : useT c x i = some l) : cn c x i = cfold (cn c x) l := by
  rw [cn_eq, cntOf, if_pos hi, hu]
  exact cfold_congr _ fun j hj => cnts_getD c x ((use_ok hc hx i l hu).2.2 j hj)
theorem cn_bare {c x : Tab} {i : Nat} (hi : i < 9) (hu : useT c x i = none) : cn c x i = 1 := by rw [cn_eq, cntOf, if_pos hi, hu]
theorem cn_hangul {c x : Tab} {i : Nat} (hi : ¬ i < 9) : cn c x i = (jamoL (al i)).length := by rw [cn_eq, cntOf, if_neg hi]
theorem cn_le (c x : Tab) (hc : c.ok) (hx : x.ok) (i : Nat) : cn c x i ≤ 65537 := by
  by_cases hi : i < 9
  · cases hu : useT c x i with
    | none => rw [cn_bare hi hu]; omega
    | some l => rw [cn_mapped hc hx hi hu]; exact cfold_le _ _
  · rw [cn_hangul hi, jamoL]; simp; split <;> simp
/-- Where no count passes the lid, the counts are the lengths. -/
theorem cn_true {c x : Tab} (hc : c.ok) (hx : x.ok) (hall : ∀ i, i < 12 → cn c x i ≤ 65536) : ∀ i, i < 12 → cn c x i = (ex c x i).length := by
  intro i
  induction i using Nat.strongRecOn with
  | ind i ih =>
    intro hi
    by_cases h9 : i < 9
    · cases hu : useT c x i with
      | none => rw [cn_bare h9 hu, ex_bare h9 hu]; rfl
      | some l =>
        have hlt := (use_ok hc hx i l hu).2.2
        have h1 := hall i hi
        rw [cn_mapped hc hx h9 hu] at h1 ⊢
        rw [ex_mapped hc hx h9 hu]
        exact (cfold_true _ _ l (fun j hj _ => ih j (hlt j hj) (by have := hlt j hj; omega)) h1).1
    · rw [cn_hangul h9, ex_hangul h9]
theorem ex_le {c x : Tab} (hc : c.ok) (hx : x.ok) (hall : ∀ i, i < 12 → cn c x i ≤ 65536) {i : Nat} (hi : i < 12) : (ex c x i).length ≤ 65536 := by
  rw [← cn_true hc hx hall i hi]; exact hall i hi
theorem part_le {c x : Tab} (hc : c.ok) (hx : x.ok) (hall : ∀ i, i < 12 → cn c x i ≤ 65536) {i : Nat} (hi : i < 9) {l : List Nat} (hu : useT c x i = some l) (k : Nat) : ((l.take k).flatMap (ex c x)).length ≤ 65536 := by
  have hlt := (use_ok hc hx i l hu).2.2
  have h1 := hall i (by omega)
  rw [cn_mapped hc hx hi hu] at h1
  exact (cfold_true _ _ l (fun j hj _ => cn_true hc hx hall j (by have := hlt j hj; omega)) h1).2 k

theorem al_bd (i : Nat) (hi : i < 12) : 65 ≤ al i ∧ al i ≤ 55203 := by
  match i, hi with
  | 0, _ | 1, _ | 2, _ | 3, _ | 4, _ | 5, _ | 6, _ | 7, _ | 8, _ | 9, _ | 10, _ | 11, _ => decide
theorem al_inj : ∀ i j : Nat, i < 12 → j < 12 → al i = al j → i = j := by
  have h : ∀ i j : Fin 12, al i.val = al j.val → i.val = j.val := by decide +kernel
  exact fun i j hi hj e => h ⟨i, hi⟩ ⟨j, hj⟩ e
theorem isH_al (i : Nat) (hi : i < 12) : isH (al i) = decide (9 ≤ i) := by
  have h : ∀ i : Fin 12, isH (al i.val) = decide (9 ≤ i.val) := by decide +kernel
  exact h ⟨i, hi⟩
theorem jamo_bd (r : Int) (h : isH r = true) : ∀ z ∈ jamoL r, 4352 ≤ z ∧ z ≤ 4546 := by
  unfold isH at h
  simp at h
  intro z hz
  unfold jamoL at hz
  simp only [List.mem_append, List.mem_cons, List.not_mem_nil, or_false] at hz
  rcases hz with (rfl | rfl) | hz
  · omega
  · omega
  · split at hz
    · cases hz
    · simp only [List.mem_cons, List.not_mem_nil, or_false] at hz; omega
end Go.Proofs.Ybulkdjhw.A
