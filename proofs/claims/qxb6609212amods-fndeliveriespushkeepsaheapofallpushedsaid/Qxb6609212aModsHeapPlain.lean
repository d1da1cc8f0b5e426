/-
  THE PLAIN PART of the two laws on the heap of deliveries: lists alone; nothing of the program.
-/
import Derived.Test.Qxb6609212aModsEnvs
namespace Go.Proofs.Qxb6609212aMods.Env
set_option linter.unusedVariables false

/-- The order of delivery. -/
def keyLess (a b : E) : Bool :=
  if a.1 = b.1 then (if a.2.1 = b.2.1 then decide (a.2.2.1 < b.2.2.1) else decide (a.2.1 < b.2.1)) else decide (a.1 < b.1)
theorem keyLess_iff (a b : E) : keyLess a b = true ↔ a.1 < b.1 ∨ (a.1 = b.1 ∧ (a.2.1 < b.2.1 ∨ (a.2.1 = b.2.1 ∧ a.2.2.1 < b.2.2.1))) := by
  unfold keyLess
  split
  · split
    · simp; omega
    · simp; omega
  · simp; omega
theorem keyLess_irrefl (a : E) : keyLess a a = false := by
  rw [← Bool.not_eq_true, keyLess_iff]; omega
theorem keyLess_trans {a b c : E} (h1 : keyLess a b = true) (h2 : keyLess b c = true) : keyLess a c = true := by
  rw [keyLess_iff] at *; omega
theorem keyLess_neg {a b c : E} (h1 : keyLess a b = false) (h2 : keyLess b c = false) : keyLess a c = false := by
  rw [← Bool.not_eq_true, keyLess_iff] at *; omega
theorem keyLess_asymm {a b : E} (h1 : keyLess a b = true) : keyLess b a = false := by
  rw [← Bool.not_eq_true]; rw [keyLess_iff] at *; omega
/-- a < b and c is not before b: a < ... -/
theorem keyLess_mix {a b c : E} (h1 : keyLess a b = true) (h2 : keyLess c b = false) : keyLess c a = false := by
  rw [← Bool.not_eq_true, keyLess_iff] at *; omega

def get (M : List E) (i : Nat) : E := M.getD i zero
def swp (M : List E) (i p : Nat) : List E := (M.set i (get M p)).set p (get M i)
/-- push's loop. -/
def sift : Nat → List E → Nat → List E
  | 0, M, _ => M
  | f + 1, M, i => if 0 < i ∧ keyLess (get M i) (get M ((i - 1) / 2)) = true then sift f (swp M i ((i - 1) / 2)) ((i - 1) / 2) else M
/-- push. -/
def pushL (L : List E) (e : E) : List E := sift (L.length + 1) (L ++ [e]) L.length
theorem sift_zero (f : Nat) (M : List E) : sift f M 0 = M := by cases f <;> simp [sift]

theorem swp_length (M : List E) (i p : Nat) : (swp M i p).length = M.length := by simp [swp]
theorem sift_length (f : Nat) : ∀ (M : List E) (i : Nat), (sift f M i).length = M.length := by
  induction f with
  | zero => intro M i; rfl
  | succ f ih =>
    intro M i
    rw [sift]
    split
    · rw [ih, swp_length]
    · rfl
theorem pushL_length (L : List E) (e : E) : (pushL L e).length = L.length + 1 := by rw [pushL, sift_length]; simp

theorem get_set_same (M : List E) (i : Nat) (e : E) (h : i < M.length) : get (M.set i e) i = e := by simp [get, List.getD, h]
theorem get_set_other (M : List E) (i j : Nat) (e : E) (h : j ≠ i) : get (M.set i e) j = get M j := by simp [get, List.getD, Ne.symm h]
theorem get_swp (M : List E) (i p j : Nat) (hi : i < M.length) (hp : p < M.length) (hip : i ≠ p) : get (swp M i p) j = if j = p then get M i else if j = i then get M p else get M j := by
  unfold swp
  by_cases h1 : j = p
  · subst h1; rw [if_pos rfl, get_set_same _ _ _ (by simpa using hp)]
  · rw [if_neg h1, get_set_other _ _ _ _ h1]
    by_cases h2 : j = i
    · subst h2; rw [if_pos rfl, get_set_same _ _ _ hi]
    · rw [if_neg h2, get_set_other _ _ _ _ h2]

/-- No child before its parent. -/
def Heap (M : List E) : Prop := ∀ j, 0 < j → j < M.length → keyLess (get M j) (get M ((j - 1) / 2)) = false
/-- All but the edge above i; and what hangs below i is not before what stands above it. -/
def Almost (M : List E) (i : Nat) : Prop :=
  (∀ j, 0 < j → j < M.length → j ≠ i → keyLess (get M j) (get M ((j - 1) / 2)) = false) ∧
  (∀ j, 0 < j → j < M.length → (j - 1) / 2 = i → 0 < i → keyLess (get M j) (get M ((i - 1) / 2)) = false)

theorem almost_swp (M : List E) (i p : Nat) (hi : i < M.length) (hpp : (i - 1) / 2 = p) (h0 : 0 < i) (hl : keyLess (get M i) (get M p) = true) (h : Almost M i) : Almost (swp M i p) p := by
  have hpi : p < i := by omega
  have hpl : p < M.length := by omega
  have hne : i ≠ p := by omega
  refine ⟨?_, ?_⟩
  · intro j j0 hj hjp
    rw [swp_length] at hj
    rw [get_swp M i p j hi hpl hne, get_swp M i p _ hi hpl hne, if_neg hjp]
    by_cases hji : j = i
    · subst hji
      rw [if_pos rfl, hpp, if_pos rfl]
      exact keyLess_asymm hl
    · rw [if_neg hji]
      by_cases hq : (j - 1) / 2 = p
      · rw [if_pos hq]
        have := h.1 j j0 hj hji
        rw [hq] at this
        exact keyLess_mix hl this
      · rw [if_neg hq]
        by_cases hq2 : (j - 1) / 2 = i
        · rw [if_pos hq2]
          have := h.2 j j0 hj hq2 h0
          rwa [hpp] at this
        · rw [if_neg hq2]
          exact h.1 j j0 hj hji
  · intro j j0 hj hjp hp0
    rw [swp_length] at hj
    have hpe := h.1 p hp0 hpl (by omega)
    have e2 : get (swp M i p) ((p - 1) / 2) = get M ((p - 1) / 2) := by
      rw [get_swp M i p _ hi hpl hne, if_neg (by omega), if_neg (by omega)]
    rw [e2, get_swp M i p j hi hpl hne, if_neg (by omega)]
    by_cases hji : j = i
    · rw [if_pos hji]
      exact hpe
    · rw [if_neg hji]
      have := h.1 j j0 hj hji
      rw [hjp] at this
      exact keyLess_neg this hpe

theorem heap_sift (f : Nat) : ∀ (M : List E) (i : Nat), i < M.length → i ≤ f → Almost M i → Heap (sift f M i) := by
  induction f with
  | zero =>
    intro M i hi hf h
    have : i = 0 := by omega
    subst this
    rw [sift_zero]
    intro j h0 hj
    exact h.1 j h0 hj (by omega)
  | succ f ih =>
    intro M i hi hf h
    rw [sift]
    split
    · rename_i hc
      obtain ⟨h0, hl⟩ := hc
      have hp : (i - 1) / 2 < i := by omega
      exact ih _ _ (by rw [swp_length]; omega) (by omega) (almost_swp M i _ hi rfl h0 hl h)
    · rename_i hc
      intro j j0 hj
      by_cases hji : j = i
      · subst hji
        have : ¬ keyLess (get M j) (get M ((j - 1) / 2)) = true := fun h' => hc ⟨j0, h'⟩
        simpa using this
      · exact h.1 j j0 hj hji
theorem get_app_left (L : List E) (e : E) (j : Nat) (h : j < L.length) : get (L ++ [e]) j = get L j := by simp [get, List.getD, List.getElem?_append_left h]
theorem get_app_last (L : List E) (e : E) : get (L ++ [e]) L.length = e := by simp [get, List.getD]
theorem heap_push (L : List E) (e : E) (h : Heap L) : Heap (pushL L e) := by
  refine heap_sift _ _ _ (by simp) (by omega) ⟨?_, ?_⟩
  · intro j j0 hj hji
    simp at hj
    rw [get_app_left L e j (by omega), get_app_left L e _ (by omega)]
    exact h j j0 (by omega)
  · intro j j0 hj hp hi
    simp at hj
    omega

/-! ### The top -/
theorem top_sift (f : Nat) : ∀ (M : List E) (i : Nat), i < M.length → i ≤ f → Almost M i → 0 < i → get (sift f M i) 0 = if keyLess (get M i) (get M 0) = true then get M i else get M 0 := by
  induction f with
  | zero => intro M i _ hf _ h0; omega
  | succ f ih =>
    intro M i hi hf h h0
    have hp : (i - 1) / 2 < i := by omega
    rw [sift]
    by_cases hl : keyLess (get M i) (get M ((i - 1) / 2)) = true
    · rw [if_pos ⟨h0, hl⟩]
      by_cases hp0 : (i - 1) / 2 = 0
      · rw [hp0] at hl ⊢
        rw [sift_zero, get_swp M i 0 0 hi (by omega) (by omega), if_pos rfl, if_pos hl]
      · have hA : Almost (swp M i ((i - 1) / 2)) ((i - 1) / 2) := almost_swp M i _ hi rfl h0 hl h
        rw [ih _ _ (by rw [swp_length]; omega) (by omega) hA (by omega)]
        have e1 : get (swp M i ((i - 1) / 2)) ((i - 1) / 2) = get M i := by rw [get_swp M i _ _ hi (by omega) (by omega), if_pos rfl]
        have e2 : get (swp M i ((i - 1) / 2)) 0 = get M 0 := by rw [get_swp M i _ 0 hi (by omega) (by omega), if_neg (by omega), if_neg (by omega)]
        rw [e1, e2]
    · rw [if_neg (fun h' => hl h'.2)]
      have hl' : keyLess (get M i) (get M ((i - 1) / 2)) = false := by simpa using hl
      -- what stands above i is not before the top
      have up : ∀ d j, j ≤ d → j < i → keyLess (get M j) (get M 0) = false := by
        intro d
        induction d with
        | zero => intro j hj _; have : j = 0 := by omega
                  subst this; exact keyLess_irrefl _
        | succ d ihd =>
          intro j hj hji
          by_cases hj0 : j = 0
          · subst hj0; exact keyLess_irrefl _
          · exact keyLess_neg (h.1 j (by omega) (by omega) (by omega)) (ihd ((j - 1) / 2) (by omega) (by omega))
      rw [if_neg (by rw [keyLess_neg hl' (up i _ (by omega) hp)]; simp)]
/-- The top behind a push. -/
theorem top_push (L : List E) (e : E) (h : Heap L) (hn : 0 < L.length) : get (pushL L e) 0 = if keyLess e (get L 0) = true then e else get L 0 := by
  unfold pushL
  rw [top_sift _ _ _ (by simp) (by omega) ?_ hn, get_app_last, get_app_left L e 0 hn]
  refine ⟨?_, ?_⟩
  · intro j j0 hj hji
    simp at hj
    rw [get_app_left L e j (by omega), get_app_left L e _ (by omega)]
    exact h j j0 (by omega)
  · intro j j0 hj hp hi
    simp at hj
    omega
theorem top_first (e : E) : get (pushL [] e) 0 = e := by simp [pushL, sift, get]

/-- All of es, one after the other. -/
def pushAll (es : List E) : Nat → List E
  | 0 => []
  | k + 1 => pushL (pushAll es k) (get es k)
theorem pushAll_length (es : List E) : ∀ k, (pushAll es k).length = k
  | 0 => rfl
  | k + 1 => by rw [pushAll, pushL_length, pushAll_length es k]
theorem pushAll_heap (es : List E) : ∀ k, Heap (pushAll es k)
  | 0 => fun j _ hj => by simp [pushAll] at hj
  | k + 1 => heap_push _ _ (pushAll_heap es k)
/-- The earliest of the least among the first k + 1. -/
def best (es : List E) : Nat → Nat
  | 0 => 0
  | k + 1 => if keyLess (get es (k + 1)) (get es (best es k)) = true then k + 1 else best es k
theorem best_le (es : List E) : ∀ k, best es k ≤ k
  | 0 => Nat.le_refl _
  | k + 1 => by have := best_le es k; rw [best]; split <;> omega
theorem top_all (es : List E) : ∀ k, get (pushAll es (k + 1)) 0 = get es (best es k)
  | 0 => by rw [pushAll, pushAll]; exact top_first _
  | k + 1 => by
    rw [pushAll, top_push _ _ (pushAll_heap es (k + 1)) (by rw [pushAll_length]; omega), top_all es k, best]
    split <;> rfl
end Go.Proofs.Qxb6609212aMods.Env
