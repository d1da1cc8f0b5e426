/-
  MEMBERS AND ROWS OF MEMBERS IN MEMORY; the small functions of FnCloseMembersLendsItsRoomToTheNextMapping.
-/
import Derived.Test.Qxb6612479aModsRows
import Derived.WalkKit
import Derived.Below
import Derived.Deep.DeepCutAuto
import Derived.Deep.CutBlock
namespace Go.Proofs.Qxb6612479aMods.Mem
open Go.RowKit
set_option linter.unusedVariables false

theorem Trym.info33 : (Trym.prog.info? 33).map (fun i => (i.zero, i.size, i.bytes)) = some (some (.agg #[.slice none 0 0, .int .i64 0, .int .i64 0]), 3, 40) := by kernel_rfl
theorem Trym.info29 : (Trym.prog.info? 29).map (fun i => (i.zero, i.size, i.bytes)) = some (some (.slice none 0 0), 1, 24) := by kernel_rfl

theorem none9 (w : World) : Calls Trym.prog 9 #[] w fun e w' => e = .returned (.slice none 0 0) ∧ w' = w := by
  go_enter Trym.func9, Trym.ntmps9
  go_wp2
  go_ret
  exact ⟨rfl, rfl⟩
theorem none8 (w : World) : Calls Trym.prog 8 #[] w fun e w' => e = .returned (.slice none 0 0) ∧ w' = w := by
  go_enter Trym.func8, Trym.ntmps8
  go_wp2
  go_ret
  exact ⟨rfl, rfl⟩
theorem member_any (s e : Int) (w : World) : Calls Trym.prog 10 #[.int .i64 s, .int .i64 e] w fun r w' => r = .returned (.agg #[.slice none 0 0, .int .i64 s, .int .i64 e]) ∧ Below w.heap.size w w' := by
  go_enter Trym.func10, Trym.ntmps10
  go_wp2
  exact bodyPost_ret (v := .agg #[.slice none 0 0, .int .i64 s, .int .i64 e]) (by simp [results, Trym.results10, go_sem]) rfl ⟨rfl, (Below.refl _ _).alloc (Nat.le_refl _) _⟩
theorem start_any (s e : Int) (w : World) : Calls Trym.prog 14 #[.agg #[.slice none 0 0, .int .i64 s, .int .i64 e]] w fun r w' => r = .returned (.int .i64 s) ∧ Below w.heap.size w w' := by
  go_enter Trym.func14, Trym.ntmps14
  go_wp2
  go_ret
  exact ⟨rfl, (Below.refl _ _).alloc (Nat.le_refl _) _⟩
theorem end_any (s e : Int) (w : World) : Calls Trym.prog 15 #[.agg #[.slice none 0 0, .int .i64 s, .int .i64 e]] w fun r w' => r = .returned (.int .i64 e) ∧ Below w.heap.size w w' := by
  go_enter Trym.func15, Trym.ntmps15
  go_wp2
  go_ret
  exact ⟨rfl, (Below.refl _ _).alloc (Nat.le_refl _) _⟩

/-- A member at the head of block g. -/
def Mem (w : World) (g : Nat) (s e : Int) : Prop := ∃ c : Array Value, w.heap[g]? = some (.cells c 33 (0, 0)) ∧ c[0]? = some (.slice none 0 0) ∧ c[1]? = some (.int .i64 s) ∧ c[2]? = some (.int .i64 e)
theorem Mem.of_block {w w' : World} {g : Nat} {s e : Int} (h : Mem w g s e) (hb : w'.heap[g]? = w.heap[g]?) : Mem w' g s e := by
  obtain ⟨c, h1, h2⟩ := h; exact ⟨c, hb.trans h1, h2⟩
theorem Mem.lt {w : World} {g : Nat} {s e : Int} (h : Mem w g s e) : g < w.heap.size := by
  obtain ⟨c, h1, _⟩ := h; exact (Array.getElem?_eq_some_iff.1 h1).1
theorem Mem.cells {w : World} {g : Nat} {s e : Int} (h : Mem w g s e) : w.cell? ⟨g, 0, none⟩ = some (.slice none 0 0) ∧ w.cell? ⟨g, 1, none⟩ = some (.int .i64 s) ∧ w.cell? ⟨g, 2, none⟩ = some (.int .i64 e) := by
  obtain ⟨c, h1, h2, h3, h4⟩ := h
  exact ⟨by rw [cell_of_row w g 0 c 33 (0, 0) h1]; exact h2, by rw [cell_of_row w g 1 c 33 (0, 0) h1]; exact h3, by rw [cell_of_row w g 2 c 33 (0, 0) h1]; exact h4⟩
/-- What is owned stays owned where its block is as it was. -/
theorem owns_of_block {w w' : World} {base e size n : Nat} {v : Value} {xs : List Value} (h : w.ownsRow base e size v n xs) (hb : ∀ g, v.ownBlock = some g → w'.heap[g]? = w.heap[g]?) : w'.ownsRow base e size v n xs := by
  refine ⟨h.1, ?_⟩
  rcases h.2 with h' | ⟨g, cap, cur, rfl, r1, r2, r3⟩
  · exact .inl h'
  · exact .inr ⟨g, cap, cur, rfl, r1, (hb g rfl).trans r2, r3⟩
theorem owns_block {w : World} {base e size n g : Nat} {v : Value} {xs : List Value} (h : w.ownsRow base e size v n xs) (hg : v.ownBlock = some g) : ∃ cur, w.heap[g]? = some (.cells cur e (0, 0)) := by
  rcases h.2 with ⟨rfl, _⟩ | ⟨g', cap, cur, rfl, r1, r2, r3⟩
  · cases hg
  · cases hg; exact ⟨cur, r2⟩
theorem mem_not_row {w : World} {base n g : Nat} {v : Value} {xs : List Value} {s e : Int} (h : w.ownsRow base 29 1 v n xs) (hm : Mem w g s e) : some g ≠ v.ownBlock := fun hg => by
  obtain ⟨cur, h1⟩ := owns_block h hg.symm
  obtain ⟨c, h2, _⟩ := hm
  rw [h1] at h2
  simp at h2

/-- The rows: k of them, each one member (j, j). -/
def Rws (w0 : World) (base k : Nat) (v : Value) (Rs : List Value) (w : World) : Prop :=
  Rs.length = k ∧ w.ownsRow base 29 1 v k Rs ∧ (∀ j, j < k → ∃ g cap, Rs[j]? = some (.slice (some ⟨g, 0, none⟩) 1 cap) ∧ Mem w g j j) ∧ Below base w0 w
theorem Rws.step {w0 wr w2 w3 : World} {base k gr capr : Nat} {v v' : Value} {Rs : List Value} {o : Obj} (h : Rws w0 base k v Rs wr) (hp : ∀ g, g < wr.heap.size → w2.heap[g]? = wr.heap[g]?) (hb2 : Below base w0 w2) (hbase : base ≤ w2.heap.size)
    (hm : Mem w2 gr k k) (ho3 : w3.ownsRow base 29 1 v' (k + 1) (Rs ++ [.slice (some ⟨gr, 0, none⟩) 1 capr])) (hg3 : (w2.alloc o).grownBy w3 v.ownBlock) :
    Rws w0 base (k + 1) v' (Rs ++ [.slice (some ⟨gr, 0, none⟩) 1 capr]) w3 := by
  obtain ⟨h1, h2, h3, h4⟩ := h
  have ho2 : w2.ownsRow base 29 1 v k Rs := owns_of_block h2 (fun g hg => hp g (h2.lt g hg).2)
  have carry : ∀ g s e, Mem w2 g s e → Mem w3 g s e := fun g s e hm => by
    refine hm.of_block ?_
    rw [hg3.block g (by simp; have := hm.lt; omega) (mem_not_row ho2 hm)]
    exact heap_alloc_old w2 o hm.lt
  refine ⟨by simp [h1], ho3, fun j hj => ?_, (hb2.alloc hbase o).grown hg3 (by simp; omega) (fun g hg => (h2.lt g hg).1)⟩
  by_cases hjk : j < k
  · obtain ⟨g, cap, e1, e2⟩ := h3 j hjk
    exact ⟨g, cap, by rw [List.getElem?_append_left (by omega)]; exact e1, carry g _ _ (e2.of_block (hp g e2.lt))⟩
  · have : j = k := by omega
    subst this
    exact ⟨gr, capr, by rw [List.getElem?_append_right (by omega)]; simp [h1], carry gr _ _ hm⟩
theorem mem_of_owns {w : World} {base n : Nat} {v : Value} {s e : Int} (h : w.ownsRow base 33 3 v 1 [.slice none 0 0, .int .i64 s, .int .i64 e]) : ∃ g cap, v = .slice (some ⟨g, 0, none⟩) 1 cap ∧ base ≤ g ∧ Mem w g s e := by
  rcases h.2 with ⟨_, h0⟩ | ⟨g, cap, cur, rfl, r1, r2, r3, r4, r5, r6⟩
  · cases h0
  · have at_ : ∀ i u, ([.slice none 0 0, .int .i64 s, .int .i64 e] : List Value)[i]? = some u → cur[i]? = some u := fun i u hu => by
      rw [← r6, List.getElem?_take] at hu
      split at hu
      · simpa using hu
      · cases hu
    exact ⟨g, cap, rfl, r1, cur, r2, at_ 0 _ rfl, at_ 1 _ rfl, at_ 2 _ rfl⟩
theorem one_new (W : World) (x : Value) (t : TypeId) : ∀ j u, ([x] : List Value)[j]? = some u → (W.alloc (.cells #[x] t)).cell? ((⟨W.heap.size, 0, none⟩ : Addr).add j) = some u := by
  intro j u hu
  rw [Addr.add_lit, Nat.zero_add, cell_of_row _ W.heap.size j #[x] t (0, 0) (heap_alloc_new W _)]
  simpa using hu
theorem three_new (W : World) (x y z : Value) (t : TypeId) : ∀ j u, ([x, y, z] : List Value)[j]? = some u → (W.alloc (.cells #[x, y, z] t)).cell? ((⟨W.heap.size, 0, none⟩ : Addr).add j) = some u := by
  intro j u hu
  rw [Addr.add_lit, Nat.zero_add, cell_of_row _ W.heap.size j #[x, y, z] t (0, 0) (heap_alloc_new W _)]
  simpa using hu
theorem three_one (s e : Int) : ∀ u ∈ ([.slice none 0 0, .int .i64 s, .int .i64 e] : List Value), u.oneCell' = true := by
  intro u hu; simp at hu; rcases hu with rfl | rfl | rfl <;> rfl

/-! ### ms -/
def msF (k : Nat) : List Value := (List.range k).flatMap fun (i : Nat) => [.slice none 0 0, .int .i64 (i : Int), .int .i64 (-(i : Int))]
theorem msF_succ (k : Nat) : msF (k + 1) = msF k ++ [.slice none 0 0, .int .i64 (k : Int), .int .i64 (-(k : Int))] := by simp [msF, List.range_succ]
theorem msF_length (k : Nat) : (msF k).length = k * 3 := by
  induction k with
  | zero => rfl
  | succ k ih => rw [msF_succ, List.length_append, ih]; simp; omega
theorem msF_at (n k : Nat) (h : k < n) : (msF n)[k * 3]? = some (.slice none 0 0) ∧ (msF n)[k * 3 + 1]? = some (.int .i64 (k : Int)) ∧ (msF n)[k * 3 + 2]? = some (.int .i64 (-(k : Int))) := by
  induction n with
  | zero => omega
  | succ n ih =>
    rw [msF_succ]
    by_cases hk : k < n
    · have hl := msF_length n
      obtain ⟨i1, i2, i3⟩ := ih hk
      exact ⟨by rw [List.getElem?_append_left (by omega)]; exact i1, by rw [List.getElem?_append_left (by omega)]; exact i2, by rw [List.getElem?_append_left (by omega)]; exact i3⟩
    · have : k = n := by omega
      subst this
      have hl := msF_length k
      exact ⟨by rw [List.getElem?_append_right (by omega), hl]; simp, by rw [List.getElem?_append_right (by omega), hl]; simp, by rw [List.getElem?_append_right (by omega), hl]; simp⟩
end Go.Proofs.Qxb6612479aMods.Mem
