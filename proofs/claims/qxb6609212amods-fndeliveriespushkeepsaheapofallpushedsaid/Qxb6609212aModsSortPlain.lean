/-
  THE PLAIN PART of FnDeliveriesPushKeepsAHeapOfAllPushed beyond the heap: an insertion sort by a total order tells multisets apart.
-/
import Derived.Test.Qxb6609212aModsHeapPlain
namespace Go.Proofs.Qxb6609212aMods.Env
set_option linter.unusedVariables false

/-- The order over every field. -/
def fullLess (a b : E) : Bool :=
  if a.1 = b.1 then (if a.2.1 = b.2.1 then (if a.2.2.1 = b.2.2.1 then (if a.2.2.2.1 = b.2.2.2.1 then decide (a.2.2.2.2 < b.2.2.2.2) else decide (a.2.2.2.1 < b.2.2.2.1)) else decide (a.2.2.1 < b.2.2.1)) else decide (a.2.1 < b.2.1)) else decide (a.1 < b.1)
theorem fullLess_iff (a b : E) : fullLess a b = true ↔ a.1 < b.1 ∨ (a.1 = b.1 ∧ (a.2.1 < b.2.1 ∨ (a.2.1 = b.2.1 ∧ (a.2.2.1 < b.2.2.1 ∨ (a.2.2.1 = b.2.2.1 ∧ (a.2.2.2.1 < b.2.2.2.1 ∨ (a.2.2.2.1 = b.2.2.2.1 ∧ a.2.2.2.2 < b.2.2.2.2))))))) := by
  unfold fullLess
  split
  · split
    · split
      · split
        · simp; omega
        · simp; omega
      · simp; omega
    · simp; omega
  · simp; omega
theorem full_asymm {a b : E} (h1 : fullLess a b = true) : fullLess b a = false := by
  rw [← Bool.not_eq_true]; rw [fullLess_iff] at *; omega
theorem full_neg {a b c : E} (h1 : fullLess a b = false) (h2 : fullLess b c = false) : fullLess a c = false := by
  rw [← Bool.not_eq_true, fullLess_iff] at *; omega
theorem full_anti {a b : E} (h1 : fullLess a b = false) (h2 : fullLess b a = false) : a = b := by
  rw [← Bool.not_eq_true, fullLess_iff] at *
  obtain ⟨a0, a1, a2, a3, a4⟩ := a
  obtain ⟨b0, b1, b2, b3, b4⟩ := b
  simp only at h1 h2
  have e0 : a0 = b0 := by omega
  have e1 : a1 = b1 := by omega
  have e2 : a2 = b2 := by omega
  have e3 : a3 = b3 := by omega
  have e4 : a4 = b4 := by omega
  rw [e0, e1, e2, e3, e4]

/-! ### Swaps keep the multiset -/
theorem get_lt (M : List E) (i : Nat) (h : i < M.length) : get M i = M[i] := by simp [get, List.getD, h]
theorem swp_perm (M : List E) (i p : Nat) (hi : i < M.length) (hp : p < M.length) (hne : i ≠ p) : (swp M i p).Perm M := by
  rw [List.perm_iff_count]
  intro a
  unfold swp
  have e1 : (M.set i (get M p))[p]'(by simpa using hp) = M[p] := List.getElem_set_ne hne _
  have pi : (if (M[i] == a) = true then 1 else 0) ≤ List.count a M := by
    split
    · rename_i h
      have : M[i] = a := by simpa using h
      exact List.count_pos_iff.2 (this ▸ List.getElem_mem hi)
    · omega
  have hc1 := List.count_set (a := get M p) (b := a) hi
  have hpos : (if (M[p] == a) = true then 1 else 0) ≤ List.count a (M.set i (get M p)) := by
    split
    · rename_i h
      have : M[p] = a := by simpa using h
      have hm : a ∈ M.set i (get M p) := by
        have h2 : (M.set i (get M p))[p]'(by simpa using hp) = a := e1.trans this
        exact h2 ▸ List.getElem_mem _
      exact List.count_pos_iff.2 hm
    · omega
  rw [List.count_set (by simpa using hp), e1, hc1, get_lt M i hi, get_lt M p hp]
  rw [hc1, get_lt M p hp] at hpos
  omega
theorem sift_perm (f : Nat) : ∀ (M : List E) (i : Nat), i < M.length → (sift f M i).Perm M := by
  induction f with
  | zero => intro M i _; exact List.Perm.refl _
  | succ f ih =>
    intro M i hi
    rw [sift]
    split
    · rename_i h
      exact (ih _ _ (by rw [swp_length]; omega)).trans (swp_perm M i _ hi (by omega) (by omega))
    · exact List.Perm.refl _
theorem pushL_perm (L : List E) (e : E) : (pushL L e).Perm (L ++ [e]) := sift_perm _ _ _ (by simp)
theorem pushAll_perm (es : List E) : ∀ k, k ≤ es.length → (pushAll es k).Perm (es.take k)
  | 0, _ => by simp [pushAll]
  | k + 1, h => by
    rw [pushAll, List.take_succ_eq_append_getElem (by omega), ← get_lt es k (by omega)]
    exact (pushL_perm _ _).trans ((pushAll_perm es k (by omega)).append_right _)

/-! ### The insertion sort, as swaps of neighbours -/
def ins : Nat → List E → Nat → List E
  | 0, N, _ => N
  | f + 1, N, j => if 0 < j ∧ fullLess (get N j) (get N (j - 1)) = true then ins f (swp N j (j - 1)) (j - 1) else N
/-- The first i + 1 in order. -/
def isort (es : List E) : Nat → List E
  | 0 => es
  | i + 1 => ins (i + 1) (isort es i) (i + 1)
theorem ins_length (f : Nat) : ∀ (N : List E) (j : Nat), (ins f N j).length = N.length := by
  induction f with
  | zero => intro N j; rfl
  | succ f ih =>
    intro N j
    rw [ins]
    split
    · rw [ih, swp_length]
    · rfl
theorem isort_length (es : List E) : ∀ i, (isort es i).length = es.length
  | 0 => rfl
  | i + 1 => by rw [isort, ins_length, isort_length es i]
theorem ins_perm (f : Nat) : ∀ (N : List E) (j : Nat), j < N.length → (ins f N j).Perm N := by
  induction f with
  | zero => intro N j _; exact List.Perm.refl _
  | succ f ih =>
    intro N j hj
    rw [ins]
    split
    · rename_i h
      exact (ih _ _ (by rw [swp_length]; omega)).trans (swp_perm N j _ hj (by omega) (by omega))
    · exact List.Perm.refl _
theorem isort_perm (es : List E) : ∀ i, i < es.length → (isort es i).Perm es
  | 0, _ => List.Perm.refl _
  | i + 1, h => (ins_perm _ _ _ (by rw [isort_length]; exact h)).trans (isort_perm es i (by omega))

/-- In order up to n. -/
def Sorted (N : List E) (n : Nat) : Prop := ∀ i, 0 < i → i ≤ n → fullLess (get N i) (get N (i - 1)) = false
/-- In order up to n but for the edge below j; what stands behind j is not before what stands ahead of it. -/
def Nearly (N : List E) (n j : Nat) : Prop :=
  (∀ i, 0 < i → i ≤ n → i ≠ j → fullLess (get N i) (get N (i - 1)) = false) ∧ (0 < j → j + 1 ≤ n → fullLess (get N (j + 1)) (get N (j - 1)) = false)
theorem ins_sorted (f : Nat) : ∀ (N : List E) (n j : Nat), n < N.length → j ≤ n → j ≤ f → Nearly N n j → Sorted (ins f N j) n := by
  induction f with
  | zero =>
    intro N n j hn hj hf h
    have : j = 0 := by omega
    subst this
    intro i i0 hi
    exact h.1 i i0 hi (by omega)
  | succ f ih =>
    intro N n j hn hj hf h
    rw [ins]
    split
    · rename_i hc
      obtain ⟨h0, hl⟩ := hc
      have G := fun i => get_swp N j (j - 1) i (by omega) (by omega) (by omega)
      refine ih _ n (j - 1) (by rw [swp_length]; exact hn) (by omega) (by omega) ⟨?_, ?_⟩
      · intro i i0 hi hij
        rw [G i, G (i - 1), if_neg hij]
        by_cases e1 : i = j
        · rw [if_pos e1, if_pos (by omega)]
          exact full_asymm hl
        · rw [if_neg e1]
          by_cases e2 : i - 1 = j - 1
          · omega
          · rw [if_neg e2]
            by_cases e3 : i - 1 = j
            · rw [if_pos e3]
              have e4 : i = j + 1 := by omega
              rw [e4]
              exact h.2 h0 (by omega)
            · rw [if_neg e3]
              exact h.1 i i0 hi e1
      · intro j0 hj1
        rw [G (j - 1 + 1), G (j - 1 - 1), if_neg (by omega), if_pos (by omega), if_neg (by omega), if_neg (by omega)]
        exact h.1 (j - 1) (by omega) (by omega) (by omega)
    · rename_i hc
      intro i i0 hi
      by_cases e1 : i = j
      · subst e1
        have : ¬ fullLess (get N i) (get N (i - 1)) = true := fun h' => hc ⟨i0, h'⟩
        simpa using this
      · exact h.1 i i0 hi e1
theorem isort_sorted (es : List E) : ∀ i, i < es.length → Sorted (isort es i) i
  | 0, _ => fun i i0 hi => by omega
  | i + 1, h => by
    have ih := isort_sorted es i (by omega)
    refine ins_sorted _ _ _ _ (by rw [isort_length]; exact h) (Nat.le_refl _) (Nat.le_refl _) ⟨?_, ?_⟩
    · intro j j0 hj hne
      exact ih j j0 (by omega)
    · intro _ h'; omega
theorem sorted_pairwise (N : List E) (h : Sorted N (N.length - 1)) : N.Pairwise (fun a b => fullLess b a = false) := by
  rw [List.pairwise_iff_getElem]
  intro i j hi hj hij
  have step : ∀ d, i + d < N.length → fullLess (get N (i + d)) (get N i) = false := by
    intro d
    induction d with
    | zero => intro _; rw [Nat.add_zero, ← Bool.not_eq_true, fullLess_iff]; omega
    | succ d ih =>
      intro hd
      have := h (i + (d + 1)) (by omega) (by omega)
      exact full_neg this (ih (by omega))
  have := step (j - i) (by omega)
  rw [show i + (j - i) = j by omega, get_lt N j hj, get_lt N i hi] at this
  exact this
/-- THE LAW: lists of the same envelopes sort to one list. -/
theorem isort_eq (A B : List E) (h : A.Perm B) (hA : 0 < A.length) : isort A (A.length - 1) = isort B (B.length - 1) := by
  have hl := h.length_eq
  refine List.Perm.eq_of_pairwise (le := fun a b => fullLess b a = false) ?_ ?_ ?_ ?_
  · intro a b _ _ h1 h2
    exact full_anti h2 h1
  · exact sorted_pairwise _ (by rw [isort_length]; exact isort_sorted A _ (by omega))
  · exact sorted_pairwise _ (by rw [isort_length]; exact isort_sorted B _ (by omega))
  · exact ((isort_perm A _ (by omega)).trans h).trans (isort_perm B _ (by omega)).symm
end Go.Proofs.Qxb6609212aMods.Env
