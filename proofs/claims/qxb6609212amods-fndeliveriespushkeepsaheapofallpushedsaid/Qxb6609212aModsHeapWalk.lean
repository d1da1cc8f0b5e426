/-
  THE HEAP OF DELIVERIES IN MEMORY: the walks of less, push and the small functions.
-/
import Derived.Test.Qxb6609212aModsHeapPlain
import Derived.Test.Qxb6609212aModsQueue
import Derived.Deep.RegionLaw
import Derived.Deep.CutBlock
namespace Go.Proofs.Qxb6609212aMods.Env
open Go.RowKit
set_option linter.unusedVariables false

theorem ret_bool {a b : Bool} (h : a = b) : Ending.returned (.bool a) = .returned (.bool b) := by rw [h]
theorem rowF_cell (M : List E) (i c : Nat) (hc : c < 6) : rowF M (i * 6 + c) = cellOf (get M i) c := by
  unfold rowF get; rw [show (i * 6 + c) / 6 = i by omega, show (i * 6 + c) % 6 = c by omega]
theorem rowF_head (M : List E) (i : Nat) : rowF M (i * 6) = cellOf (get M i) 0 := rowF_cell M i 0 (by omega)

theorem d3 (w : World) (a b c : Nat) : ((w.drewN a).drewN b).drewN c = w.drewN (a + (b + c)) := by rw [World.drewN_drewN, World.drewN_drewN]
theorem kl_due {a b : E} (h : ¬ a.1 = b.1) : keyLess a b = decide (a.1 < b.1) := by unfold keyLess; rw [if_neg h]
theorem kl_tie {a b : E} (h : a.1 = b.1) (h2 : ¬ a.2.1 = b.2.1) : keyLess a b = decide (a.2.1 < b.2.1) := by unfold keyLess; rw [if_pos h, if_neg h2]
theorem kl_seq {a b : E} (h : a.1 = b.1) (h2 : a.2.1 = b.2.1) : keyLess a b = decide (a.2.2.1 < b.2.2.1) := by unfold keyLess; rw [if_pos h, if_pos h2]

set_option maxHeartbeats 1000000 in
theorem less_any (g n cap i j : Nat) (M : List E) (w : World) (hn : n ≤ 65536) (hi : i < n) (hj : j < n) (hc : ∀ x, x < n * 6 → w.cell? ⟨g, x, none⟩ = some (rowF M x)) :
    Calls Trym.prog 22 #[.slice (some ⟨g, 0, none⟩) n cap, .int .i64 i, .int .i64 j] w fun e w' => e = .returned (.bool (keyLess (get M i) (get M j))) ∧ ∃ nq, w' = w.drewN nq := by
  have a0 := hc (i * 6) (by omega)
  have a1 := hc (i * 6 + 1) (by omega)
  have a2 := hc (i * 6 + 2) (by omega)
  have b0 := hc (j * 6) (by omega)
  have b1 := hc (j * 6 + 1) (by omega)
  have b2 := hc (j * 6 + 2) (by omega)
  rw [rowF_head] at a0 b0
  rw [rowF_cell _ _ _ (by omega)] at a1 a2 b1 b2
  obtain ⟨⟨x0, x1, x2, x3, x4⟩, hx⟩ : ∃ e, get M i = e := ⟨_, rfl⟩
  obtain ⟨⟨y0, y1, y2, y3, y4⟩, hy⟩ : ∃ e, get M j = e := ⟨_, rfl⟩
  rw [hx] at a0 a1 a2
  rw [hy] at b0 b1 b2
  rw [hx, hy]
  simp only [cellOf] at a0 a1 a2 b0 b1 b2
  have hii : (i : Int) < (n : Int) := by omega
  have hjj : (j : Int) < (n : Int) := by omega
  clear hc hx hy
  by_cases h0 : x0 = y0
  · have t0 : (x0 != y0) = false := by simp [h0]
    by_cases h1 : x1 = y1
    · have t1 : (x1 != y1) = false := by simp [h1]
      have HK : Hid (keyLess (x0, x1, x2, x3, x4) (y0, y1, y2, y3, y4) = decide (x2 < y2)) := kl_seq h0 h1
      clear h0 h1
      go_enter Trym.func22, Trym.ntmps22
      go_wp2
      go_quiet (fail)
      go_wp2
      go_quiet (fail)
      go_wp2
      go_quiet (fail)
      go_wp2
      go_ret
      exact ⟨ret_bool HK.out.symm, _, d3 _ _ _ _⟩
    · have t1 : (x1 != y1) = true := by simp [h1]
      have HK : Hid (keyLess (x0, x1, x2, x3, x4) (y0, y1, y2, y3, y4) = decide (x1 < y1)) := kl_tie h0 h1
      clear h0 h1
      go_enter Trym.func22, Trym.ntmps22
      go_wp2
      go_quiet (fail)
      go_wp2
      go_quiet (fail)
      go_wp2
      go_quiet (fail)
      go_wp2
      go_ret
      exact ⟨ret_bool HK.out.symm, _, d3 _ _ _ _⟩
  · have t0 : (x0 != y0) = true := by simp [h0]
    have HK : Hid (keyLess (x0, x1, x2, x3, x4) (y0, y1, y2, y3, y4) = decide (x0 < y0)) := kl_due h0
    clear h0
    go_enter Trym.func22, Trym.ntmps22
    go_wp2
    go_quiet (fail)
    go_wp2
    go_quiet (fail)
    go_wp2
    go_ret
    exact ⟨ret_bool HK.out.symm, _, World.drewN_drewN _ _ _⟩

/-- Two stores more of the same make: an element put at i, another at p. -/
def cellsL (L : List E) : List Value := (List.range (L.length * 6)).map (rowF L)
/-- A heap in memory. -/
def Hp (B Q : Nat) (L : List E) (w : World) : Prop := B ≤ Q ∧ ∃ v, w.rowIs Q 42 1 (fun _ => v) ∧ w.ownsRow (Q + 1) 48 6 v L.length (cellsL L)
/-- A row of elements with room behind them. -/
def RowL (w : World) (g cap : Nat) (M : List E) : Prop := ∃ f, w.rowIs g 48 (cap * 6) f ∧ M.length ≤ cap ∧ ∀ x, x < M.length * 6 → f x = rowF M x
theorem RowL.cell {w : World} {g cap : Nat} {M : List E} (h : RowL w g cap M) (x : Nat) (hx : x < M.length * 6) : w.cell? ⟨g, x, none⟩ = some (rowF M x) := by
  obtain ⟨f, hr, hl, hf⟩ := h
  rw [hr.cell (by have := Nat.mul_le_mul_right 6 hl; omega), hf x hx]
theorem RowL.frozen {w : World} {g cap : Nat} {M : List E} (h : RowL w g cap M) (x : Nat) : w.frozen? ⟨g, x, none⟩ = false := by
  obtain ⟨f, hr, _, _⟩ := h; exact hr.frozen x
theorem RowL.drewN {w : World} {g cap : Nat} {M : List E} (h : RowL w g cap M) (nq : Nat) : RowL (w.drewN nq) g cap M := h
theorem rowF_set (M : List E) (i x : Nat) (e : E) (hi : i < M.length) : rowF (M.set i e) x = if x / 6 = i then cellOf e (x % 6) else rowF M x := by
  unfold rowF
  by_cases h : x / 6 = i
  · rw [if_pos h, h]; simp [List.getD, hi]
  · rw [if_neg h]; simp [List.getD, Ne.symm h]
theorem RowL.put {w : World} {g cap : Nat} {M : List E} (h : RowL w g cap M) (i : Nat) (e : E) (hi : i < M.length) : RowL (put6 w g i e) g cap (M.set i e) := by
  obtain ⟨f, hr, hl, hf⟩ := h
  refine ⟨_, put6_row hr i e, by simpa using hl, ?_⟩
  intro x hx
  simp only [List.length_set] at hx
  rw [rowF_set M i x e hi]
  by_cases h : x / 6 = i
  · rw [if_pos h, if_pos h]
  · rw [if_neg h, if_neg h, hf x hx]
theorem RowL.swap {w : World} {g cap : Nat} {M : List E} (h : RowL w g cap M) (i p : Nat) (hi : i < M.length) (hp : p < M.length) : RowL (put6 (put6 w g i (get M p)) g p (get M i)) g cap (swp M i p) :=
  (h.put i _ hi).put p _ (by simpa using hp)
/-- From what is owned to the row, and back. -/
theorem rowL_of_owns {w : World} {base g n cap : Nat} {M : List E} (h : w.ownsRow base 48 6 (.slice (some ⟨g, 0, none⟩) n cap) n (cellsL M)) (hn : M.length = n) : RowL w g cap M ∧ base ≤ g ∧ cap ≤ maxLen := by
  rcases h.2 with ⟨h', _⟩ | ⟨g', cap', cur, h', hb, hg, hnc, hcm, hcs, ht⟩
  · cases h'
  · cases h'
    refine ⟨⟨fun x => cur.getD x .nilIface, ⟨cur, hg, hcs, fun x hx => ?_⟩, by omega, fun x hx => ?_⟩, hb, hcm⟩
    · simp [hcs ▸ hx]
    · have e : (cellsL M)[x]? = some (rowF M x) := by simp [cellsL, hx]
      rw [← ht, List.getElem?_take, if_pos (by omega)] at e
      simp only [Array.getElem?_toList] at e
      simp [Array.getD_eq_getD_getElem?, e]
theorem owns_of_rowL {w : World} {base g n cap : Nat} {M : List E} (h : RowL w g cap M) (hn : M.length = n) (hb : base ≤ g) (hcm : cap ≤ maxLen) : w.ownsRow base 48 6 (.slice (some ⟨g, 0, none⟩) n cap) n (cellsL M) := by
  obtain ⟨f, ⟨c, h1, h2, h3⟩, hl, hf⟩ := h
  refine ⟨by simp [cellsL, hn], .inr ⟨g, cap, c, rfl, hb, h1, by omega, hcm, h2, ?_⟩⟩
  apply List.ext_getElem?
  intro x
  rw [List.getElem?_take]
  by_cases hx : x < n * 6
  · rw [if_pos hx]
    have hx' : x < cap * 6 := by have := Nat.mul_le_mul_right 6 (show n ≤ cap by omega); omega
    simp only [Array.getElem?_toList, h3 x hx', hf x (by omega), cellsL]
    simp [hn, hx]
  · rw [if_neg hx]
    simp [cellsL, hn, hx]

theorem cellsL_snoc (L : List E) (e : E) : cellsL (L ++ [e]) = cellsL L ++ [.int .u64 e.1, .int .u64 e.2.1, .int .u64 e.2.2.1, .int .i64 e.2.2.2.1, .int .i64 e.2.2.2.2, .nilIface] := by
  have e1 : (L ++ [e]).length * 6 = L.length * 6 + 6 := by simp; omega
  unfold cellsL
  rw [e1, List.range_add, List.map_append]
  congr 1
  · apply List.map_congr_left
    intro x hx
    have hx' := List.mem_range.1 hx
    exact rowF_other L e x (by omega)
  · simp only [List.map_map]
    have h : ∀ c, c < 6 → rowF (L ++ [e]) (L.length * 6 + c) = cellOf e c := fun c hc => by
      rw [rowF_at L e _ (by omega)]; congr 1; omega
    show [rowF (L ++ [e]) (L.length * 6 + 0), rowF (L ++ [e]) (L.length * 6 + 1), rowF (L ++ [e]) (L.length * 6 + 2), rowF (L ++ [e]) (L.length * 6 + 3), rowF (L ++ [e]) (L.length * 6 + 4), rowF (L ++ [e]) (L.length * 6 + 5)] = _
    rw [h 0 (by omega), h 1 (by omega), h 2 (by omega), h 3 (by omega), h 4 (by omega), h 5 (by omega)]
    rfl
theorem new_cells6 (W : World) (cs : List Value) (t : TypeId) : ∀ j u, cs[j]? = some u → (W.alloc (.cells cs.toArray t)).cell? ((⟨W.heap.size, 0, none⟩ : Addr).add j) = some u := by
  intro j u hu
  rw [Addr.add_lit, Nat.zero_add, cell_of_row _ W.heap.size j cs.toArray t (0, 0) (heap_alloc_new W _)]
  simpa using hu

theorem sift_stop (f : Nat) (M : List E) (i : Nat) (h : keyLess (get M i) (get M ((i - 1) / 2)) = false ∨ i = 0) : sift f M i = M := by
  cases f with
  | zero => rfl
  | succ f =>
    rw [sift, if_neg]
    rintro ⟨h0, hl⟩
    rcases h with h | h
    · rw [hl] at h; cases h
    · omega
/-- append, its run known, as one step of a region that draws. -/
theorem step_append_run {P : Program} {ops : Array Oper} {o : Oper} {a : Act} {w : World} {K : Act → World → Prop} {Q : Exit → Act → World → Prop} {E : Prop}
    (hg : o.guard = none) (s x : Operand) (t ty : TypeId) (hop : o.op = Op.call { callee := Callee.builtin Builtin.append, args := #[s, x], argTypes := #[t, t] }) (hty : o.type = ty)
    (v xv : Value) (hs : a.eval s = v) (hx : a.eval x = xv) (v' : Value) (w' : World) (hrun : (Builtin.append_ #[t, t] ty #[v, xv]).run P w = .ok v' w') (hK : K (a.put o.dst v') w') :
    if Region.wanted o (yielded ops a.tmps) = true then Oper.wp P o a w K Q else E := by
  have hw : Region.wanted o (yielded ops a.tmps) = true := by simp [Region.wanted, hg]
  rw [if_pos hw]
  subst hty
  unfold Oper.wp
  simp [execOp, hop, resolve, invoke, builtin, hs, hx, hrun, Result.andThen]
  exact hK
theorem slice_of_owns {w : World} {base e size n : Nat} {v : Value} {xs : List Value} (h : w.ownsRow base e size v n xs) (hn : v ≠ .slice none 0 0) : ∃ g cap, v = .slice (some ⟨g, 0, none⟩) n cap := by
  rcases h.2 with ⟨h', _⟩ | ⟨g, cap, _, h', _⟩
  · exact absurd h' hn
  · exact ⟨g, cap, h'⟩

set_option maxRecDepth 100000 in
set_option maxHeartbeats 2000000 in
theorem hpush_any (B Q : Nat) (L : List E) (a b c d n : Int) (w : World) (hL : L.length ≤ 32768) (hq : Hp B Q L w) :
    Calls Trym.prog 19 #[.pointer (some ⟨Q, 0, none⟩), .agg #[.int .u64 a, .int .u64 b, .int .u64 c, .int .i64 d, .int .i64 n, .nilIface]] w fun e w' => e = .returned (.tuple #[]) ∧ Hp B Q (pushL L (a, b, c, d, n)) w' ∧ Below B w w' := by
  obtain ⟨hBQ, v, hQr, ho⟩ := hq
  have hQ := hQr.lt
  have q0 : w.cell? ⟨Q, 0, none⟩ = some v := hQr.cell (by omega)
  obtain ⟨i48, hi, hz0, hz1, hz2⟩ := info_parts Trym.info48
  obtain ⟨o, hO⟩ : ∃ o : Obj, o = .cells #[.int .u64 a, .int .u64 b, .int .u64 c, .int .i64 d, .int .i64 n, .nilIface] 48 := ⟨_, rfl⟩
  obtain ⟨v', w1, hrun, ho', hg', hnil⟩ := run_append_own (P := Trym.prog) ((w.alloc o).alloc o).drew (Q + 1) 42 42 48 i48 _ 6 56 Trym.underlying42 hi hz0 hz1 hz2 rfl (by omega) v L.length (cellsL L)
    (World.ownsRow.drew ((ho.alloc o).alloc o)) ⟨w.heap.size + 1, 0, none⟩ 1 1 [.int .u64 a, .int .u64 b, .int .u64 c, .int .i64 d, .int .i64 n, .nilIface] rfl
    (by rw [hO]; have := new_cells6 (w.alloc (.cells #[.int .u64 a, .int .u64 b, .int .u64 c, .int .i64 d, .int .i64 n, .nilIface] 48)) [.int .u64 a, .int .u64 b, .int .u64 c, .int .i64 d, .int .i64 n, .nilIface] 48; simpa using this)
    (by simp [Value.oneCell']) (by unfold maxLen; omega) (by omega) (by simp; omega)
  subst hO
  obtain ⟨g, cap, rfl⟩ := slice_of_owns ho' (fun h => by have := (hnil.1 h).2; omega)
  have hl1 : (L ++ [(a, b, c, d, n)]).length = L.length + 1 := by simp
  obtain ⟨hrow, hQg, hcap⟩ := rowL_of_owns (M := L ++ [(a, b, c, d, n)]) (by rw [cellsL_snoc]; exact ho') hl1
  have hvQ : some Q ≠ v.ownBlock := fun h => by have := (ho.lt Q h.symm).1; omega
  have hQ1 : w1.rowIs Q 42 1 (fun _ => v) := ((hQr.alloc _).alloc _).of_block (hg'.block Q (by simp; omega) hvQ)
  have hB1 : Below B w w1 := by
    have h1 := (((Below.refl B w).alloc (by omega) (.cells #[.int .u64 a, .int .u64 b, .int .u64 c, .int .i64 d, .int .i64 n, .nilIface] 48)).alloc (by simp; omega) (.cells #[.int .u64 a, .int .u64 b, .int .u64 c, .int .i64 d, .int .i64 n, .nilIface] 48)).drew
    exact h1.grown hg' (by simp; omega) (fun k hk => by have := (ho.lt k hk).1; omega)
  have q1 : w1.cell? ⟨Q, 0, none⟩ = some v := hQ1.cell (by omega)
  have z1 : w1.frozen? ⟨Q, 0, none⟩ = false := hQ1.frozen 0
  obtain ⟨n1, hn1⟩ : ∃ n1, L.length + 1 = n1 := ⟨_, rfl⟩
  rw [hn1] at hl1
  rw [hn1] at hrun
  have HRUN : Hid _ := hrun
  have S0 : Hid (RowL (w1.setCell ⟨Q, 0, none⟩ (.slice (some ⟨g, 0, none⟩) n1 cap)) g cap (L ++ [(a, b, c, d, n)]) ∧ (w1.setCell ⟨Q, 0, none⟩ (.slice (some ⟨g, 0, none⟩) n1 cap)).rowIs Q 42 1 (fun _ => .slice (some ⟨g, 0, none⟩) n1 cap) ∧ Below B w (w1.setCell ⟨Q, 0, none⟩ (.slice (some ⟨g, 0, none⟩) n1 cap))) := by
    refine ⟨?_, (hQ1.set 0 _).congr (fun i hi => by rw [if_pos (by omega)]), hB1.setCell (by exact hBQ) _⟩
    obtain ⟨f, h1, h2, h3⟩ := hrow
    exact ⟨f, h1.setOther (by exact (by omega : g ≠ Q)) _, h2, h3⟩
  have hn1b : n1 ≤ 32769 := by omega
  have hn1p : (n1 : Int) - 1 = (L.length : Int) := by omega
  have HN1 : Hid (L.length + 1 = n1) := hn1
  clear hn1 hrow hQ1 hB1 ho' hg' hnil hQr ho hrun hi hz0 hz1 hz2 hl1
  go_enter Trym.func19, Trym.ntmps19
  go_upto_region 1 with fail
  go_cut [13] (fun s13 wc => RowL wc g cap (L ++ [(a, b, c, d, n)]) ∧ wc.rowIs Q 42 1 (fun _ => .slice (some ⟨g, 0, none⟩) n1 cap) ∧ Below B w wc)
  case first =>
    go_region_law (refine step_append_run rfl (.tmp 10) (.tmp 12) 42 42 rfl rfl _ _ rfl rfl _ w1 HRUN.out ?_)
    all_goals
      go_wp2
      go_meet
      case rel => exact S0.out
  case rest =>
  rename World => w2
  obtain ⟨hrow, hQ2, hB2⟩ := hcut
  have q2 : w2.cell? ⟨Q, 0, none⟩ = some (.slice (some ⟨g, 0, none⟩) n1 cap) := hQ2.cell (by omega)
  have H2 : Hid (RowL w2 g cap (L ++ [(a, b, c, d, n)]) ∧ w2.rowIs Q 42 1 (fun _ => .slice (some ⟨g, 0, none⟩) n1 cap) ∧ Below B w w2) := ⟨hrow, hQ2, hB2⟩
  clear hrow hQ2 hB2 S0 HRUN q0 q1 z1
  go_wp2
  go_loopg [5, 6] L.length (fun gk s5 s6 wr => ∃ (i : Nat) (M : List E), s5 = .int .i64 i ∧ i < n1 ∧ Hid (gk = i) ∧ Hid (M.length = n1 ∧ RowL wr g cap M ∧ wr.rowIs Q 42 1 (fun _ => .slice (some ⟨g, 0, none⟩) n1 cap) ∧ Below B w wr ∧ ∃ f, sift f M i = pushL L (a, b, c, d, n) ∧ i ≤ f))
  case atStart => exact ⟨L.length, L ++ [(a, b, c, d, n)], rfl, by have := HN1.out; omega, rfl, by simp; exact HN1.out, H2.out.1, H2.out.2.1, H2.out.2.2, L.length + 1, rfl, by omega⟩
  case round =>
    obtain ⟨i, M, rfl, hin, hgi, HI⟩ := hrel
    clear H2 q2
    obtain ⟨hMl, hrow, hQr, hBr, f, hf, hif⟩ := HI.out
    have hdone : keyLess (get M i) (get M ((i - 1) / 2)) = false ∨ i = 0 → Hid (∀ nq, Hp B Q (pushL L (a, b, c, d, n)) (wr.drewN nq) ∧ Below B w (wr.drewN nq)) := fun h => by
      have hT : M = pushL L (a, b, c, d, n) := by
        rw [← hf]; exact (sift_stop f M i h).symm
      rw [← hT]
      exact fun nq => ⟨⟨hBQ, _, hQr, by rw [hMl]; exact owns_of_rowL hrow hMl hQg hcap⟩, hBr.os, hBr.tape, hBr.output, hBr.size, hBr.block⟩
    by_cases hi0 : i = 0
    · have R := hdone (.inr hi0)
      subst hi0
      clear hdone hrow hQr hBr hf hMl HI
      go_wp2
      go_end0
      exact ⟨rfl, R.out 0⟩
    · obtain ⟨p, hp⟩ : ∃ p : Nat, (i - 1) / 2 = p := ⟨_, rfl⟩
      have hpi : p < i := by omega
      have hpI : ((i : Int) - 1) / 2 = (p : Int) := by omega
      have hi1 : (0 : Int) < (i : Int) := by omega
      have hless : Hid (Calls Trym.prog 22 _ wr _) := less_any g n1 cap i p M wr (by omega) hin (by omega) (by rw [← hMl]; exact hrow.cell)
      rw [hp] at hdone
      cases hkl : keyLess (get M i) (get M p) with
      | false =>
        have R := hdone (.inl hkl)
        rw [hkl] at hless
        clear hdone hrow hQr hBr hf hMl HI hkl
        go_wp2_with fail
        refine hless.out.mono ?_
        rintro e w' ⟨rfl, nq, rfl⟩
        go_wp2
        go_end0
        exact ⟨rfl, R.out nq⟩
      | true =>
        rw [hkl] at hless
        have c0 := hrow.cell (i * 6) (by omega)
        have c1 := hrow.cell (i * 6 + 1) (by omega)
        have c2 := hrow.cell (i * 6 + 2) (by omega)
        have c3 := hrow.cell (i * 6 + 3) (by omega)
        have c4 := hrow.cell (i * 6 + 4) (by omega)
        have c5 := hrow.cell (i * 6 + 5) (by omega)
        have e0 := hrow.cell (p * 6) (by omega)
        have e1 := hrow.cell (p * 6 + 1) (by omega)
        have e2 := hrow.cell (p * 6 + 2) (by omega)
        have e3 := hrow.cell (p * 6 + 3) (by omega)
        have e4 := hrow.cell (p * 6 + 4) (by omega)
        have e5 := hrow.cell (p * 6 + 5) (by omega)
        rw [rowF_head] at c0 e0
        rw [rowF_cell _ _ _ (by omega)] at c1 c2 c3 c4 c5 e1 e2 e3 e4 e5
        have hfz : ∀ j, wr.frozen? ⟨g, j, none⟩ = false := hrow.frozen
        have R : Hid (∃ f', sift f' (swp M i p) p = pushL L (a, b, c, d, n) ∧ p ≤ f') := by
          obtain ⟨f', rfl⟩ : ∃ f', f = f' + 1 := ⟨f - 1, by omega⟩
          rw [sift, if_pos ⟨by omega, by rw [hp]; exact hkl⟩, hp] at hf
          exact ⟨f', hf, by omega⟩
        have S : Hid (∀ nq, RowL (put6 (put6 (wr.drewN nq) g i (get M p)) g p (get M i)) g cap (swp M i p) ∧ (put6 (put6 (wr.drewN nq) g i (get M p)) g p (get M i)).rowIs Q 42 1 (fun _ => .slice (some ⟨g, 0, none⟩) n1 cap) ∧ Below B w (put6 (put6 (wr.drewN nq) g i (get M p)) g p (get M i))) := fun nq =>
          ⟨(hrow.drewN nq).swap i p (by omega) (by omega), put6_other (put6_other (w := wr.drewN nq) hQr (by omega) _ _) (by omega) _ _, put6_below (put6_below (w := wr.drewN nq) ⟨hBr.os, hBr.tape, hBr.output, hBr.size, hBr.block⟩ (by omega) _ _) (by omega) _ _⟩
        have HMl : Hid ((swp M i p).length = n1) := by rw [swp_length]; exact hMl
        obtain ⟨⟨x0, x1, x2, x3, x4⟩, hx⟩ : ∃ e, get M i = e := ⟨_, rfl⟩
        obtain ⟨⟨y0, y1, y2, y3, y4⟩, hy⟩ : ∃ e, get M p = e := ⟨_, rfl⟩
        rw [hx] at c0 c1 c2 c3 c4 c5 S
        rw [hy] at e0 e1 e2 e3 e4 e5 S
        simp only [cellOf] at c0 c1 c2 c3 c4 c5 e0 e1 e2 e3 e4 e5
        have hii : (i : Int) < (n1 : Int) := by omega
        have hpp : (p : Int) < (n1 : Int) := by omega
        clear hdone hrow hQr hBr hf hMl HI hkl hx hy hp hif
        go_wp2_with fail
        refine hless.out.mono ?_
        rintro e w' ⟨rfl, nq, rfl⟩
        clear hless
        go_wp2
        go_region
        go_wp2
        go_roundg p
        case measure => have := hgi.out; omega
        case rel => exact ⟨p, swp M i p, rfl, by omega, rfl, HMl.out, (S.out _).1, (S.out _).2.1, (S.out _).2.2, R.out⟩
end Go.Proofs.Qxb6609212aMods.Env
