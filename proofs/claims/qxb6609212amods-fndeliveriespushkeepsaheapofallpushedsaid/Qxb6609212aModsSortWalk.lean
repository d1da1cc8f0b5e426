/-
  THE WALKS of envFullLess, envSortedCopy, envSameMultiset.
-/
import Derived.Test.Qxb6609212aModsSortPlain
import Derived.Test.Qxb6609212aModsHeapLaw
import Derived.Deep.RegionWith
namespace Go.Proofs.Qxb6609212aMods.Env
open Go.RowKit
set_option linter.unusedVariables false

theorem fl0 {a b : E} (h : ¬ a.1 = b.1) : fullLess a b = decide (a.1 < b.1) := by unfold fullLess; rw [if_neg h]
theorem fl1 {a b : E} (h : a.1 = b.1) (h1 : ¬ a.2.1 = b.2.1) : fullLess a b = decide (a.2.1 < b.2.1) := by unfold fullLess; rw [if_pos h, if_neg h1]
theorem fl2 {a b : E} (h : a.1 = b.1) (h1 : a.2.1 = b.2.1) (h2 : ¬ a.2.2.1 = b.2.2.1) : fullLess a b = decide (a.2.2.1 < b.2.2.1) := by unfold fullLess; rw [if_pos h, if_pos h1, if_neg h2]
theorem fl3 {a b : E} (h : a.1 = b.1) (h1 : a.2.1 = b.2.1) (h2 : a.2.2.1 = b.2.2.1) (h3 : ¬ a.2.2.2.1 = b.2.2.2.1) : fullLess a b = decide (a.2.2.2.1 < b.2.2.2.1) := by unfold fullLess; rw [if_pos h, if_pos h1, if_pos h2, if_neg h3]
theorem fl4 {a b : E} (h : a.1 = b.1) (h1 : a.2.1 = b.2.1) (h2 : a.2.2.1 = b.2.2.1) (h3 : a.2.2.2.1 = b.2.2.2.1) : fullLess a b = decide (a.2.2.2.2 < b.2.2.2.2) := by unfold fullLess; rw [if_pos h, if_pos h1, if_pos h2, if_pos h3]

set_option maxHeartbeats 1000000 in
theorem full_any (x0 x1 x2 x3 x4 y0 y1 y2 y3 y4 : Int) (w : World) :
    Calls Trym.prog 23 #[.agg #[.int .u64 x0, .int .u64 x1, .int .u64 x2, .int .i64 x3, .int .i64 x4], .agg #[.int .u64 y0, .int .u64 y1, .int .u64 y2, .int .i64 y3, .int .i64 y4]] w fun e w' => e = .returned (.bool (fullLess (x0, x1, x2, x3, x4) (y0, y1, y2, y3, y4))) ∧ Below w.heap.size w w' := by
  by_cases h0 : x0 = y0
  · have t0 : (x0 != y0) = false := by simp [h0]
    by_cases h1 : x1 = y1
    · have t1 : (x1 != y1) = false := by simp [h1]
      by_cases h2 : x2 = y2
      · have t2 : (x2 != y2) = false := by simp [h2]
        by_cases h3 : x3 = y3
        · have t3 : (x3 != y3) = false := by simp [h3]
          have HK : Hid (fullLess (x0, x1, x2, x3, x4) (y0, y1, y2, y3, y4) = decide (x4 < y4)) := fl4 h0 h1 h2 h3
          clear h0 h1 h2 h3
          go_enter Trym.func23, Trym.ntmps23
          go_wp2
          go_ret
          exact ⟨ret_bool HK.out.symm, two_below _ _ _⟩
        · have t3 : (x3 != y3) = true := by simp [h3]
          have HK : Hid (fullLess (x0, x1, x2, x3, x4) (y0, y1, y2, y3, y4) = decide (x3 < y3)) := fl3 h0 h1 h2 h3
          clear h0 h1 h2 h3
          go_enter Trym.func23, Trym.ntmps23
          go_wp2
          go_ret
          exact ⟨ret_bool HK.out.symm, two_below _ _ _⟩
      · have t2 : (x2 != y2) = true := by simp [h2]
        have HK : Hid (fullLess (x0, x1, x2, x3, x4) (y0, y1, y2, y3, y4) = decide (x2 < y2)) := fl2 h0 h1 h2
        clear h0 h1 h2
        go_enter Trym.func23, Trym.ntmps23
        go_wp2
        go_ret
        exact ⟨ret_bool HK.out.symm, two_below _ _ _⟩
    · have t1 : (x1 != y1) = true := by simp [h1]
      have HK : Hid (fullLess (x0, x1, x2, x3, x4) (y0, y1, y2, y3, y4) = decide (x1 < y1)) := fl1 h0 h1
      clear h0 h1
      go_enter Trym.func23, Trym.ntmps23
      go_wp2
      go_ret
      exact ⟨ret_bool HK.out.symm, two_below _ _ _⟩
  · have t0 : (x0 != y0) = true := by simp [h0]
    have HK : Hid (fullLess (x0, x1, x2, x3, x4) (y0, y1, y2, y3, y4) = decide (x0 < y0)) := fl0 h0
    clear h0
    go_enter Trym.func23, Trym.ntmps23
    go_wp2
    go_ret
    exact ⟨ret_bool HK.out.symm, two_below _ _ _⟩

/-! ### Rows of five-cell elements -/
def cell5 (e : E) : Nat → Value
  | 0 => .int .u64 e.1
  | 1 => .int .u64 e.2.1
  | 2 => .int .u64 e.2.2.1
  | 3 => .int .i64 e.2.2.2.1
  | _ => .int .i64 e.2.2.2.2
def row5F (L : List E) (j : Nat) : Value := cell5 (get L (j / 5)) (j % 5)
def put5 (w : World) (g k : Nat) (e : E) : World :=
  ((((w.setCell ⟨g, k * 5, none⟩ (.int .u64 e.1)).setCell ⟨g, k * 5 + 1, none⟩ (.int .u64 e.2.1)).setCell ⟨g, k * 5 + 2, none⟩ (.int .u64 e.2.2.1)).setCell ⟨g, k * 5 + 3, none⟩ (.int .i64 e.2.2.2.1)).setCell ⟨g, k * 5 + 4, none⟩ (.int .i64 e.2.2.2.2)
theorem put5_row {w : World} {g t n : Nat} {f : Nat → Value} (h : w.rowIs g t n f) (k : Nat) (e : E) : (put5 w g k e).rowIs g t n (fun j => if j / 5 = k then cell5 e (j % 5) else f j) := by
  refine (((((h.set (k * 5) _).set (k * 5 + 1) _).set (k * 5 + 2) _).set (k * 5 + 3) _).set (k * 5 + 4) _).congr ?_
  intro j hj
  by_cases hk : j / 5 = k
  · rw [if_pos hk]
    have hm : j % 5 < 5 := Nat.mod_lt _ (by omega)
    have hd : j = k * 5 + j % 5 := by omega
    generalize j % 5 = r at *
    subst hd
    match r, hm with
    | 0, _ => simp [cell5]
    | 1, _ => simp [cell5]
    | 2, _ => simp [cell5]
    | 3, _ => simp [cell5]
    | 4, _ => simp [cell5]
  · rw [if_neg hk, if_neg (by omega), if_neg (by omega), if_neg (by omega), if_neg (by omega), if_neg (by omega)]
theorem put5_other {w : World} {g b t n : Nat} {f : Nat → Value} (h : w.rowIs b t n f) (hb : b ≠ g) (k : Nat) (e : E) : (put5 w g k e).rowIs b t n f :=
  ((((h.setOther (by exact hb) _).setOther (by exact hb) _).setOther (by exact hb) _).setOther (by exact hb) _).setOther (by exact hb) _
theorem put5_below {B : Nat} {a w : World} (h : Below B a w) {g : Nat} (hg : B ≤ g) (k : Nat) (e : E) : Below B a (put5 w g k e) :=
  ((((h.setCell (by exact hg) _).setCell (by exact hg) _).setCell (by exact hg) _).setCell (by exact hg) _).setCell (by exact hg) _
theorem row5_set {w : World} {g n : Nat} {M : List E} (h : w.rowIs g 29 (n * 5) (row5F M)) (k : Nat) (e : E) (hk : k < M.length) : (put5 w g k e).rowIs g 29 (n * 5) (row5F (M.set k e)) := by
  refine (put5_row h k e).congr ?_
  intro j hj
  unfold row5F
  by_cases hd : j / 5 = k
  · rw [if_pos hd, hd, get_set_same M k e hk]
  · rw [if_neg hd, get_set_other M k _ e hd]
theorem row5_app {w : World} {g n : Nat} {M : List E} (h : w.rowIs g 29 (n * 5) (row5F M)) (e : E) : (put5 w g M.length e).rowIs g 29 (n * 5) (row5F (M ++ [e])) := by
  refine (put5_row h M.length e).congr ?_
  intro j hj
  unfold row5F
  by_cases hd : j / 5 = M.length
  · rw [if_pos hd, hd, get_app_last]
  · rw [if_neg hd]
    congr 1
    by_cases hl : j / 5 < M.length
    · rw [get_app_left M e _ hl]
    · simp only [get, List.getD]
      rw [List.getElem?_eq_none (by omega), List.getElem?_eq_none (by simp; omega)]
theorem row5_at {w : World} {g n i : Nat} {M : List E} (h : w.rowIs g 29 (n * 5) (row5F M)) (hi : i < n) : At5 w g 0 i (get M i) := by
  have c : ∀ c, c < 5 → w.cell? ⟨g, i * 5 + c, none⟩ = some (cell5 (get M i) c) := fun c hc => by
    rw [h.cell (by omega)]; unfold row5F; rw [show (i * 5 + c) / 5 = i by omega, show (i * 5 + c) % 5 = c by omega]
  unfold At5
  simp only [Nat.zero_add]
  exact ⟨c 0 (by omega), c 1 (by omega), c 2 (by omega), c 3 (by omega), c 4 (by omega)⟩
theorem Trym.info29 : (Trym.prog.info? 29).map (fun i => (i.zero, i.size, i.bytes)) = some (some (.agg #[.int .u64 0, .int .u64 0, .int .u64 0, .int .i64 0, .int .i64 0]), 5, 40) := by kernel_rfl
theorem made_zero5 (n j : Nat) (hj : j < n * 5) : (madeCells (Value.cells (.agg #[.int .u64 0, .int .u64 0, .int .u64 0, .int .i64 0, .int .i64 0])) (n * 5)).toList[j]? = some (row5F [] j) := by
  have hm : j % 5 < 5 := Nat.mod_lt _ (by omega)
  have e : row5F [] j = cell5 zero (j % 5) := by simp [row5F, get]
  rw [e]
  simp only [madeCells, Value.cells, Array.getElem?_toList, Array.getElem?_map, Array.getElem?_range, hj, if_true, Option.map_some]
  show some (#[Value.int .u64 0, .int .u64 0, .int .u64 0, .int .i64 0, .int .i64 0][j % 5]!) = _
  generalize j % 5 = r at hm
  match r, hm with
  | 0, _ => rfl
  | 1, _ => rfl
  | 2, _ => rfl
  | 3, _ => rfl
  | 4, _ => rfl
theorem box5 (w : World) (a b c d n : Int) : At5 (w.alloc (.cells #[.int .u64 a, .int .u64 b, .int .u64 c, .int .i64 d, .int .i64 n] 29)) w.heap.size 0 0 (a, b, c, d, n) := by
  have h : (w.alloc (.cells #[.int .u64 a, .int .u64 b, .int .u64 c, .int .i64 d, .int .i64 n] 29)).rowIs w.heap.size 29 (1 * 5) (row5F [(a, b, c, d, n)]) := by
    refine World.rowIs_alloc w _ 29 _ ?_
    intro i hi
    simp at hi
    match i, hi with
    | 0, _ => rfl
    | 1, _ => rfl
    | 2, _ => rfl
    | 3, _ => rfl
    | 4, _ => rfl
  exact row5_at h (by omega)
theorem ins_stop (f : Nat) (N : List E) (j : Nat) (h : fullLess (get N j) (get N (j - 1)) = false ∨ j = 0) : ins f N j = N := by
  cases f with
  | zero => rfl
  | succ f =>
    rw [ins, if_neg]
    rintro ⟨h0, hl⟩
    rcases h with h | h
    · rw [hl] at h; cases h
    · omega
theorem set_get (N : List E) (j : Nat) (hj : j < N.length) : N.set j (get N j) = N := by rw [get_lt N j hj]; exact List.set_getElem_self hj
theorem set_junk (N : List E) (j : Nat) (u v : E) : (N.set j u).set j v = N.set j v := List.set_set ..
theorem swp_junk (N : List E) (j p : Nat) (hj : j < N.length) (hp : p < N.length) (hne : j ≠ p) : (swp N j p).set p (get N p) = N.set j (get N p) := by
  unfold swp
  rw [List.set_set]
  have : get (N.set j (get N p)) p = get N p := get_set_other _ _ _ _ (Ne.symm hne)
  have h2 := set_get (N.set j (get N p)) p (by simpa using hp)
  rw [this] at h2
  exact h2

/-- The state of the inner loop: the row but for place j, x in a box at X. -/
def InsSt (G n X i : Nat) (es : List E) (w : World) (x : E) (j : Nat) (wr : World) : Prop :=
  ∃ (N : List E) (u : E) (f : Nat), N.length = n ∧ wr.rowIs G 29 (n * 5) (row5F (N.set j u)) ∧ At5 wr X 0 0 x ∧ get N j = x ∧ ins f N j = isort es i ∧ j ≤ f ∧ X < wr.heap.size ∧ Below G w wr
/-- It ends. -/
theorem InsSt.done {G n X i j : Nat} {es N : List E} {w wr : World} {x u : E} {f : Nat} (hj : j < n) (h1 : N.length = n) (h2 : wr.rowIs G 29 (n * 5) (row5F (N.set j u))) (h4 : get N j = x) (h5 : ins f N j = isort es i) (h8 : Below G w wr)
    (hs : fullLess (get N j) (get N (j - 1)) = false ∨ j = 0) : (put5 wr G j x).rowIs G 29 (n * 5) (row5F (isort es i)) ∧ Below G w (put5 wr G j x) := by
  refine ⟨?_, put5_below h8 (Nat.le_refl _) _ _⟩
  have hx := row5_set h2 j x (by simp; omega)
  have hN : N = isort es i := (ins_stop f N j hs).symm.trans h5
  have e : (N.set j u).set j x = isort es i := by
    rw [List.set_set, ← h4, set_get N j (by omega)]; exact hN
  rw [e] at hx
  exact hx
/-- It goes on. -/
theorem InsSt.next {G n X i j p : Nat} {es N : List E} {w wr : World} {x u : E} {f : Nat} (hj : j < n) (hp : p + 1 = j) (hXG : G < X) (h1 : N.length = n) (h2 : wr.rowIs G 29 (n * 5) (row5F (N.set j u))) (h3 : At5 wr X 0 0 x) (h4 : get N j = x) (h5 : ins f N j = isort es i) (h6 : j ≤ f) (h7 : X < wr.heap.size) (h8 : Below G w wr)
    (hs : fullLess (get N j) (get N p) = true) : InsSt G n X i es w x p (put5 wr G j (get N p)) := by
  have hpj : j - 1 = p := by omega
  obtain ⟨f', rfl⟩ : ∃ f', f = f' + 1 := ⟨f - 1, by omega⟩
  refine ⟨swp N j p, get N p, f', by rw [swp_length]; exact h1, ?_, ?_, ?_, ?_, by omega, by simpa [put5] using h7, put5_below h8 (Nat.le_refl _) _ _⟩
  · have := row5_set h2 j (get N p) (by simp; omega)
    rw [List.set_set] at this
    rw [swp_junk N j p (by omega) (by omega) (by omega)]
    exact this
  · have hb : Below X wr (put5 wr G j (get N p)) → True := fun _ => trivial
    obtain ⟨a0, a1, a2, a3, a4⟩ := h3
    have keep : ∀ o v, wr.cell? ⟨X, o, none⟩ = some v → (put5 wr G j (get N p)).cell? ⟨X, o, none⟩ = some v := by
      intro o v hv
      have hblk : (put5 wr G j (get N p)).heap[X]? = wr.heap[X]? := by
        unfold put5
        rw [Go.Deep.blk_setCell_other _ _ _ _ (by exact (by omega : X ≠ G)), Go.Deep.blk_setCell_other _ _ _ _ (by exact (by omega : X ≠ G)), Go.Deep.blk_setCell_other _ _ _ _ (by exact (by omega : X ≠ G)), Go.Deep.blk_setCell_other _ _ _ _ (by exact (by omega : X ≠ G)), Go.Deep.blk_setCell_other _ _ _ _ (by exact (by omega : X ≠ G))]
      exact (World.cell?_of_block (w := wr) (a := ⟨X, o, none⟩) hblk).trans hv
    exact ⟨keep _ _ a0, keep _ _ a1, keep _ _ a2, keep _ _ a3, keep _ _ a4⟩
  · rw [get_swp N j p p (by omega) (by omega) (by omega), if_pos rfl]; exact h4
  · rw [ins, if_pos ⟨by omega, by rw [hpj]; exact hs⟩, hpj] at h5
    exact h5

theorem wrap_nat {p : Nat} (hp : p ≤ 65536) : IntKind.i64.wrap (p : Int) = (p : Int) := by
  simp only [IntKind.wrap, IntKind.bits, IntKind.signed]
  simp
  omega
theorem take_snoc' (es : List E) (k : Nat) (h : k < es.length) : es.take k ++ [get es k] = es.take (k + 1) := by
  rw [List.take_succ_eq_append_getElem h, get_lt es k h]

set_option maxRecDepth 100000 in
set_option maxHeartbeats 2000000 in
theorem sorted_any (b off n cap : Nat) (es : List E) (w : World) (hl : es.length = n) (hn0 : 0 < n) (hn1 : n ≤ 16384) (hb : b < w.heap.size) (hc : ∀ i, i < n → At5 w b off i (get es i)) :
    Calls Trym.prog 20 #[.slice (some ⟨b, off, none⟩) n cap] w fun e w' => e = .returned (.slice (some ⟨w.heap.size, 0, none⟩) n n) ∧ w'.rowIs w.heap.size 29 (n * 5) (row5F (isort es (n - 1))) ∧ Below w.heap.size w w' := by
  obtain ⟨i29, hi, hz0, hz1, hz2⟩ := info_parts Trym.info29
  have HL : Hid (es.length = n) := hl
  have HC : Hid (∀ i, i < n → At5 w b off i (get es i)) := hc
  clear hl hc
  go_enter Trym.func20, Trym.ntmps20
  go_upto_block 0 with (first | (at_make; refine wpList_make_full _ rfl _ _ 22 rfl w.heap.size 29 i29 (.agg #[.int .u64 0, .int .u64 0, .int .u64 0, .int .i64 0, .int .i64 0]) 5 Trym.underlying22 hi hz0 hz1 _ _ _ _ n rfl rfl rfl rfl ?_ ?_ ?_ ?_))
  · rw [hz2]; omega
  · unfold maxLen; omega
  · exact Nat.le_refl _
  intro w1 ho1 hg1
  obtain ⟨G, hG⟩ : ∃ G, Hid (w.heap.size = G) := ⟨_, rfl⟩
  have H1 : Hid (w1.rowIs w.heap.size 29 (n * 5) (row5F []) ∧ Below w.heap.size w w1) := ⟨owns_row ho1 (made_zero5 n), (Below.refl _ _).grown hg1 (Nat.le_refl _) (by intro k h; cases h)⟩
  rw [hG.out] at H1 hb
  rw [hG.out]
  clear ho1 hg1 hi hz0 hz1 hz2
  go_upto_block 0 with fail
  go_cut [4] (fun s4 wc => wc.rowIs G 29 (n * 5) (row5F es) ∧ Below G w wc)
  case first =>
    go_wp2
    go_loopg [4] n (fun g s4 wr => ∃ k : Nat, k ≤ n ∧ Hid (k + g = n) ∧ s4 = .int .i64 k ∧ wr.rowIs G 29 (n * 5) (row5F (es.take k)) ∧ Below G w wr)
    case atStart => exact ⟨0, by omega, Nat.zero_add _, rfl, H1.out.1, H1.out.2⟩
    case round =>
      obtain ⟨k, hk, hkg, rfl, hr, hbw⟩ := hrel
      clear H1
      by_cases hlt : k < n
      · obtain ⟨c0, c1, c2, c3, c4⟩ := (HC.out k hlt).below hbw (by exact hb)
        have hkl : (es.take k).length = k := by have := HL.out; simp; omega
        have hpr := row5_app hr (get es k)
        rw [hkl, take_snoc' es k (by have := HL.out; omega)] at hpr
        have hpb := put5_below hbw (Nat.le_refl G) k (get es k)
        obtain ⟨⟨x0, x1, x2, x3, x4⟩, hE⟩ : ∃ e, Hid (get es k = e) := ⟨_, rfl⟩
        rw [hE.out] at c0 c1 c2 c3 c4 hpr hpb
        have R : Hid _ := And.intro hpr hpb
        obtain ⟨v0, d0⟩ : ∃ v, wr.cell? ⟨G, k * 5, none⟩ = some v := ⟨_, hr.cell (by omega)⟩
        obtain ⟨v1, d1⟩ : ∃ v, wr.cell? ⟨G, k * 5 + 1, none⟩ = some v := ⟨_, hr.cell (by omega)⟩
        obtain ⟨v2, d2⟩ : ∃ v, wr.cell? ⟨G, k * 5 + 2, none⟩ = some v := ⟨_, hr.cell (by omega)⟩
        obtain ⟨v3, d3⟩ : ∃ v, wr.cell? ⟨G, k * 5 + 3, none⟩ = some v := ⟨_, hr.cell (by omega)⟩
        obtain ⟨v4, d4⟩ : ∃ v, wr.cell? ⟨G, k * 5 + 4, none⟩ = some v := ⟨_, hr.cell (by omega)⟩
        have hfz : ∀ j, wr.frozen? ⟨G, j, none⟩ = false := hr.frozen
        have hki : (k : Int) < (n : Int) := by omega
        clear hr hbw hpr hpb hkl
        go_wp2
        go_roundg (n - (k + 1))
        case measure => have := hkg.out; omega
        case rel => exact ⟨k + 1, by omega, (by omega : k + 1 + (n - (k + 1)) = n), by go_num, R.out.1, R.out.2⟩
      · have ek : k = n := by omega
        rw [ek, List.take_of_length_le (by rw [HL.out]; exact Nat.le_refl _)] at hr
        have R : Hid _ := And.intro hr hbw
        clear hr hbw ek
        go_wp2
        go_meet
        case rel => exact R.out
  case rest =>
  rename World => w2
  obtain ⟨hr2, hb2⟩ := hcut
  have H2 : Hid (w2.rowIs G 29 (n * 5) (row5F es) ∧ Below G w w2) := ⟨hr2, hb2⟩
  clear hr2 hb2 H1
  go_wp2
  go_loopg [5] n (fun g s5 wr => ∃ i : Nat, 1 ≤ i ∧ i ≤ n ∧ Hid (i + g = n + 1) ∧ s5 = .int .i64 i ∧ wr.rowIs G 29 (n * 5) (row5F (isort es (i - 1))) ∧ Below G w wr)
  case atStart => exact ⟨1, Nat.le_refl _, by omega, Nat.add_comm _ _, rfl, H2.out⟩
  case round =>
    obtain ⟨i, hi1, hin, hig, rfl, hr, hbw⟩ := hrel
    clear H2
    by_cases hlt : i < n
    · obtain ⟨c0, c1, c2, c3, c4⟩ := row5_at hr hlt
      simp only [Nat.zero_add] at c0 c1 c2 c3 c4
      have hNl := isort_length es (i - 1)
      obtain ⟨N, hN⟩ : ∃ N, Hid (isort es (i - 1) = N) := ⟨_, rfl⟩
      have HI : Hid (isort es i = ins i N i) := by
        obtain ⟨i', rfl⟩ : ∃ i', i = i' + 1 := ⟨i - 1, by omega⟩
        rw [← hN.out]; rfl
      rw [hN.out] at hr c0 c1 c2 c3 c4 hNl
      obtain ⟨⟨x0, x1, x2, x3, x4⟩, hE⟩ : ∃ e, Hid (get N i = e) := ⟨_, rfl⟩
      rw [hE.out] at c0 c1 c2 c3 c4
      have HR : Hid (wr.rowIs G 29 (n * 5) (row5F N) ∧ Below G w wr ∧ N.length = n) := ⟨hr, hbw, by rw [hNl]; exact HL.out⟩
      have hGw := hr.lt
      have hii : (i : Int) < (n : Int) := by omega
      obtain ⟨X, hX⟩ : ∃ X, Hid (wr.heap.size = X) := ⟨_, rfl⟩
      have S0 : Hid (InsSt G n X i es w (x0, x1, x2, x3, x4) i (wr.alloc (.cells #[.int .u64 x0, .int .u64 x1, .int .u64 x2, .int .i64 x3, .int .i64 x4] 29))) := by
        refine ⟨N, get N i, i, HR.out.2.2, ?_, ?_, hE.out, HI.out.symm, Nat.le_refl _, ?_, hbw.alloc (by omega) _⟩
        · rw [set_get N i (by have := HR.out.2.2; omega)]; exact hr.alloc _
        · rw [← hX.out]; exact box5 wr x0 x1 x2 x3 x4
        · rw [← hX.out]; simp
      have hGX : G < X := by rw [← hX.out]; exact hGw
      clear hr hbw hNl
      go_wp2
      rw [hX.out]
      go_loopg [7] i (fun g s7 wr => ∃ j : Nat, j ≤ i ∧ Hid (g = j) ∧ s7 = .int .i64 j ∧ Hid (InsSt G n X i es w (x0, x1, x2, x3, x4) j wr))
      case atStart => exact ⟨i, Nat.le_refl _, rfl, rfl, S0.out⟩
      case round =>
        clear c0 c1 c2 c3 c4 HR S0 hE HI hGw
        obtain ⟨j, hji, hgj, rfl, HS⟩ := hrel
        obtain ⟨N', u, f, h1, h2, h3, h4, h5, h6, h7, h8⟩ := HS.out
        have hfz : ∀ j, wr.frozen? ⟨G, j, none⟩ = false := h2.frozen
        obtain ⟨a0, a1, a2, a3, a4⟩ := h3
        simp only [Nat.zero_mul, Nat.add_zero, Nat.zero_add] at a0 a1 a2 a3 a4
        obtain ⟨v0, d0⟩ : ∃ v, wr.cell? ⟨G, j * 5, none⟩ = some v := ⟨_, h2.cell (by omega)⟩
        obtain ⟨v1, d1⟩ : ∃ v, wr.cell? ⟨G, j * 5 + 1, none⟩ = some v := ⟨_, h2.cell (by omega)⟩
        obtain ⟨v2, d2⟩ : ∃ v, wr.cell? ⟨G, j * 5 + 2, none⟩ = some v := ⟨_, h2.cell (by omega)⟩
        obtain ⟨v3, d3⟩ : ∃ v, wr.cell? ⟨G, j * 5 + 3, none⟩ = some v := ⟨_, h2.cell (by omega)⟩
        obtain ⟨v4, d4⟩ : ∃ v, wr.cell? ⟨G, j * 5 + 4, none⟩ = some v := ⟨_, h2.cell (by omega)⟩
        have hjn : (j : Int) < (n : Int) := by omega
        by_cases hj0 : j = 0
        · subst hj0
          have R : Hid (∀ nq, (put5 (wr.drewN nq) G 0 (x0, x1, x2, x3, x4)).rowIs G 29 (n * 5) (row5F (isort es i)) ∧ Below G w (put5 (wr.drewN nq) G 0 (x0, x1, x2, x3, x4))) := fun nq => InsSt.done (X := X) (wr := wr.drewN nq) (by omega) h1 h2 h4 h5 ⟨h8.os, h8.tape, h8.output, h8.size, h8.block⟩ (.inr rfl)
          clear h1 h2 h4 h5 h6 h7 h8 HS
          simp only [Nat.zero_mul, Nat.zero_add] at d0 d1 d2 d3 d4
          have hd : decide ((0 : Int) < ((0 : Nat) : Int)) = false := rfl
          go_wp2
          go_quiet (fail)
          go_wp2
          go_roundg (n - i)
          case measure => have := hig.out; omega
          case rel => exact ⟨i + 1, by omega, by omega, (by omega : i + 1 + (n - i) = n + 1), by go_num, (R.out _).1, (R.out _).2⟩
        · obtain ⟨p, hp⟩ : ∃ p, p + 1 = j := ⟨j - 1, by omega⟩
          have hpI : (j : Int) - 1 = (p : Int) := by omega
          have hpn : (p : Int) < (n : Int) := by omega
          have hj0i : (0 : Int) < (j : Int) := by omega
          have hd : decide (0 < j) = true := decide_eq_true (by omega)
          have hwr : IntKind.i64.wrap (p : Int) = (p : Int) := wrap_nat (by omega)
          have hp0 : (0 : Int) ≤ (p : Int) := by omega
          obtain ⟨b0, b1, b2, b3, b4⟩ := row5_at h2 (i := p) (by omega)
          simp only [Nat.zero_add] at b0 b1 b2 b3 b4
          rw [get_set_other _ _ _ _ (by omega)] at b0 b1 b2 b3 b4
          have HS' : Hid (∀ wx, Below wr.heap.size wr wx → (fullLess (get N' j) (get N' p) = true → InsSt G n X i es w (x0, x1, x2, x3, x4) p (put5 wx G j (get N' p))) ∧ (fullLess (get N' j) (get N' p) = false → (put5 wx G j (x0, x1, x2, x3, x4)).rowIs G 29 (n * 5) (row5F (isort es i)) ∧ Below G w (put5 wx G j (x0, x1, x2, x3, x4)))) := by
            intro wx hwx
            have k2 : wx.rowIs G 29 (n * 5) (row5F (N'.set j u)) := h2.of_block (hwx.block G h2.lt)
            have k8 : Below G w wx := h8.trans (hwx.mono (by have := h2.lt; omega))
            have k3 : At5 wx X 0 0 (x0, x1, x2, x3, x4) := At5.below (w := wr) (by simp only [At5, Nat.zero_mul, Nat.add_zero, Nat.zero_add]; exact ⟨a0, a1, a2, a3, a4⟩) hwx h7
            exact ⟨fun hs => InsSt.next (by omega) hp hGX h1 k2 k3 h4 h5 h6 (by have := hwx.size; omega) k8 hs, fun hs => InsSt.done (X := X) (by omega) h1 k2 h4 h5 k8 (.inl (by rw [show j - 1 = p by omega]; exact hs))⟩
          obtain ⟨⟨y0, y1, y2, y3, y4⟩, hy⟩ : ∃ e, get N' p = e := ⟨_, rfl⟩
          rw [hy] at b0 b1 b2 b3 b4 HS'
          rw [h4] at HS'
          have hXw := h7
          have hGw := h2.lt
          obtain ⟨Z, hZ⟩ : ∃ Z, Hid (wr.heap.size = Z) := ⟨_, rfl⟩
          clear h1 h2 h4 h5 h6 h7 h8 HS hy hp
          go_upto_region 11 with fail
          go_cut [45] (fun s45 wc => s45 = .bool (fullLess (x0, x1, x2, x3, x4) (y0, y1, y2, y3, y4)) ∧ Below wr.heap.size wr wc)
          case first =>
            go_region_with (go_at_call 23; refine (full_any x0 x1 x2 x3 x4 y0 y1 y2 y3 y4 _).mono ?_; rintro e w' ⟨rfl, hb'⟩)
            all_goals
              have R : Hid (Below wr.heap.size wr w') := ⟨hb'.os, hb'.tape, hb'.output, hb'.size, hb'.block⟩
              clear hb'
              go_wp2
              go_meet
              case rel => exact ⟨rfl, R.out⟩
          case rest =>
          rename World => wx
          obtain ⟨rfl, hbx⟩ := hcut
          have T := HS'.out wx hbx
          have cx : ∀ B o, B < wr.heap.size → wx.cell? ⟨B, o, none⟩ = wr.cell? ⟨B, o, none⟩ := fun B o h => hbx.cell (p := ⟨B, o, none⟩) h
          have fx : ∀ j, wx.frozen? ⟨G, j, none⟩ = false := fun j => (hbx.frozen (p := ⟨G, j, none⟩) hGw).trans (hfz j)
          rw [← cx G _ hGw] at b0 b1 b2 b3 b4 d0 d1 d2 d3 d4
          rw [← cx X _ hXw] at a0 a1 a2 a3 a4
          clear cx hbx hfz HS'
          cases hkl : fullLess (x0, x1, x2, x3, x4) (y0, y1, y2, y3, y4) with
          | false =>
            have R : Hid _ := T.2 hkl
            clear T hkl
            go_wp2
            go_roundg (n - i)
            case measure => have := hig.out; omega
            case rel => exact ⟨i + 1, by omega, by omega, (by omega : i + 1 + (n - i) = n + 1), by go_num, R.out.1, R.out.2⟩
          | true =>
            have R : Hid _ := T.1 hkl
            clear T hkl
            go_wp2
            go_roundg p
            case measure => have := hgj.out; omega
            case rel => exact ⟨p, by omega, rfl, rfl, R.out⟩
    · have ei : i - 1 = n - 1 := by omega
      rw [ei] at hr
      have R : Hid _ := And.intro hr hbw
      clear hr hbw ei
      go_wp2
      go_ret
      rw [hG.out]
      exact ⟨rfl, R.out⟩
end Go.Proofs.Qxb6609212aMods.Env
