/-
  THE SMALL FUNCTIONS ON THE HEAP OF DELIVERIES, BY THEIR CONTRACTS.
-/
import Derived.Test.Qxb6609212aModsHeapWalk
import Derived.Test.Qxb6609212aModsOpen
import Derived.Deep.RegionHeld3
namespace Go.Proofs.Qxb6609212aMods.Env
open Go.RowKit
set_option linter.unusedVariables false

theorem hnew_any (w : World) : Calls Trym.prog 7 #[] w fun e w' => e = .returned (.pointer (some ⟨w.heap.size, 0, none⟩)) ∧ Hp w.heap.size w.heap.size [] w' ∧ Below w.heap.size w w' := by
  have R : Hid (Hp w.heap.size w.heap.size [] (w.alloc (.cells #[.slice none 0 0] 42)) ∧ Below w.heap.size w (w.alloc (.cells #[.slice none 0 0] 42))) := by
    refine ⟨⟨Nat.le_refl _, .slice none 0 0, ?_, World.ownsRow_nil _ _ _ _⟩, (Below.refl _ _).alloc (Nat.le_refl _) _⟩
    refine World.rowIs_alloc w _ 42 _ ?_
    intro i hi
    simp at hi
    subst hi
    rfl
  go_enter Trym.func7, Trym.ntmps7
  go_wp2
  go_ret
  exact ⟨rfl, R.out⟩

theorem zzhpush_any (B Q : Nat) (L : List E) (a b c d n : Int) (w : World) (hL : L.length ≤ 32768) (hq : Hp B Q L w) :
    Calls Trym.prog 8 #[.pointer (some ⟨Q, 0, none⟩), .int .u64 a, .int .u64 b, .int .u64 c, .int .i64 d, .int .i64 n] w fun e w' => e = .returned (.tuple #[]) ∧ Hp B Q (pushL L (a, b, c, d, n)) w' ∧ Below B w w' := by
  have H : Hid (Calls Trym.prog 19 _ w _) := hpush_any B Q L a b c d n w hL hq
  go_enter Trym.func8, Trym.ntmps8
  go_wp2_with fail
  refine H.out.mono ?_
  rintro e w' ⟨rfl, h1, h2⟩
  have R : Hid _ := And.intro h1 h2
  clear h1 h2 hq
  go_wp2
  go_end0
  exact ⟨rfl, R.out⟩

/-- The slice in a heap's cell. -/
theorem hp_slice {B Q : Nat} {L : List E} {w : World} (hq : Hp B Q L w) : ∃ ao cap, w.cell? ⟨Q, 0, none⟩ = some (.slice ao L.length cap) ∧ (0 < L.length → ∃ g, ao = some ⟨g, 0, none⟩ ∧ ∀ x, x < L.length * 6 → w.cell? ⟨g, x, none⟩ = some (rowF L x)) := by
  obtain ⟨_, v, hr, ho⟩ := hq
  have q := hr.cell (i := 0) (by omega)
  rcases ho.2 with ⟨rfl, h0⟩ | ⟨g, cap, cur, rfl, _⟩
  · exact ⟨none, 0, by rw [h0]; exact q, fun h => by omega⟩
  · exact ⟨_, cap, q, fun _ => ⟨g, rfl, (rowL_of_owns ho rfl).1.cell⟩⟩
theorem Hp.below {B Q : Nat} {L : List E} {w w' : World} (hq : Hp B Q L w) (hb : Below w.heap.size w w') : Hp B Q L w' := by
  obtain ⟨h1, v, hr, ho⟩ := hq
  refine ⟨h1, v, hr.of_block (hb.block Q hr.lt), ho.1, ?_⟩
  rcases ho.2 with h | ⟨g, cap, cur, h, hb', hg, hr'⟩
  · exact .inl h
  · exact .inr ⟨g, cap, cur, h, hb', by rw [hb.block g (Array.getElem?_eq_some_iff.1 hg).1]; exact hg, hr'⟩

theorem hlen_any (B Q : Nat) (L : List E) (w : World) (hq : Hp B Q L w) : Calls Trym.prog 9 #[.pointer (some ⟨Q, 0, none⟩)] w fun e w' => e = .returned (.int .i64 L.length) ∧ w' = w := by
  obtain ⟨ao, cap, q0, _⟩ := hp_slice hq
  clear hq
  go_enter Trym.func9, Trym.ntmps9
  go_wp2
  go_ret
  exact ⟨rfl, rfl⟩

set_option maxHeartbeats 800000 in
theorem hat_any (B Q i : Nat) (L : List E) (w : World) (hq : Hp B Q L w) (hi : i < L.length) (hS : L.length ≤ 65536) :
    Calls Trym.prog 10 #[.pointer (some ⟨Q, 0, none⟩), .int .i64 i] w fun e w' => e = .returned (.tuple #[.int .u64 (get L i).1, .int .u64 (get L i).2.1, .int .u64 (get L i).2.2.1, .int .i64 (get L i).2.2.2.1, .int .i64 (get L i).2.2.2.2]) ∧ Below w.heap.size w w' := by
  obtain ⟨ao, cap, q0, hg⟩ := hp_slice hq
  obtain ⟨g, rfl, h2⟩ := hg (by omega)
  have c0 := h2 (i * 6) (by omega)
  have c1 := h2 (i * 6 + 1) (by omega)
  have c2 := h2 (i * 6 + 2) (by omega)
  have c3 := h2 (i * 6 + 3) (by omega)
  have c4 := h2 (i * 6 + 4) (by omega)
  have c5 := h2 (i * 6 + 5) (by omega)
  rw [rowF_head] at c0
  rw [rowF_cell _ _ _ (by omega)] at c1 c2 c3 c4 c5
  obtain ⟨⟨a, b, c, d, n⟩, hE⟩ : ∃ e, get L i = e := ⟨_, rfl⟩
  rw [hE] at c0 c1 c2 c3 c4 c5 ⊢
  simp only [cellOf] at c0 c1 c2 c3 c4 c5
  have hii : (i : Int) < (L.length : Int) := by omega
  clear hg h2 hE hq
  go_enter Trym.func10, Trym.ntmps10
  go_wp2
  go_quiet (fail)
  go_wp2
  exact bodyPost_ret (v := .tuple #[.int .u64 a, .int .u64 b, .int .u64 c, .int .i64 d, .int .i64 n]) (by simp [results, Trym.results10, go_sem]) rfl ⟨rfl, box_below _ (Nat.le_refl _) _ _⟩

/-- The value of an element of the argument. -/
abbrev val5 (e : E) : Value := .agg #[.int .u64 e.1, .int .u64 e.2.1, .int .u64 e.2.2.1, .int .i64 e.2.2.2.1, .int .i64 e.2.2.2.2]
theorem two_below (w : World) (o o' : Obj) : Below w.heap.size w ((w.alloc o).alloc o') := ((Below.refl _ _).alloc (Nat.le_refl _) _).alloc (by simp) _

set_option maxHeartbeats 1000000 in
theorem key_any (x0 x1 x2 x3 x4 y0 y1 y2 y3 y4 : Int) (w : World) :
    Calls Trym.prog 11 #[.agg #[.int .u64 x0, .int .u64 x1, .int .u64 x2, .int .i64 x3, .int .i64 x4], .agg #[.int .u64 y0, .int .u64 y1, .int .u64 y2, .int .i64 y3, .int .i64 y4]] w fun e w' => e = .returned (.bool (keyLess (x0, x1, x2, x3, x4) (y0, y1, y2, y3, y4))) ∧ Below w.heap.size w w' := by
  by_cases h0 : x0 = y0
  · have t0 : (x0 != y0) = false := by simp [h0]
    by_cases h1 : x1 = y1
    · have t1 : (x1 != y1) = false := by simp [h1]
      have HK : Hid (keyLess (x0, x1, x2, x3, x4) (y0, y1, y2, y3, y4) = decide (x2 < y2)) := kl_seq h0 h1
      clear h0 h1
      go_enter Trym.func11, Trym.ntmps11
      go_wp2
      go_ret
      exact ⟨ret_bool HK.out.symm, two_below _ _ _⟩
    · have t1 : (x1 != y1) = true := by simp [h1]
      have HK : Hid (keyLess (x0, x1, x2, x3, x4) (y0, y1, y2, y3, y4) = decide (x1 < y1)) := kl_tie h0 h1
      clear h0 h1
      go_enter Trym.func11, Trym.ntmps11
      go_wp2
      go_ret
      exact ⟨ret_bool HK.out.symm, two_below _ _ _⟩
  · have t0 : (x0 != y0) = true := by simp [h0]
    have HK : Hid (keyLess (x0, x1, x2, x3, x4) (y0, y1, y2, y3, y4) = decide (x0 < y0)) := kl_due h0
    clear h0
    go_enter Trym.func11, Trym.ntmps11
    go_wp2
    go_ret
    exact ⟨ret_bool HK.out.symm, two_below _ _ _⟩

theorem bytes13 (a0 : Option Addr) (l0 c0 : Nat) (w : World) (h0 : l0 ≤ maxLen) :
    Calls Trym.prog 13 #[.slice a0 l0 c0] w fun e w' => (∃ ok, e = .returned (.bool ok)) ∧ w' = w := by
  unfold maxLen at h0
  go_enter Trym.func13, Trym.ntmps13
  go_wp2
  all_goals (go_ret; exact ⟨⟨_, rfl⟩, rfl⟩)
theorem bytes6 (a0 : Option Addr) (l0 c0 : Nat) (w : World) (h0 : l0 ≤ maxLen) :
    Calls Trym.prog 6 #[.slice a0 l0 c0] w fun e w' => (∃ ok, e = .returned (.bool ok)) ∧ w' = w := by
  unfold maxLen at h0
  go_enter Trym.func6, Trym.ntmps6
  go_wp2
  all_goals (go_ret; exact ⟨⟨_, rfl⟩, rfl⟩)
end Go.Proofs.Qxb6609212aMods.Env
