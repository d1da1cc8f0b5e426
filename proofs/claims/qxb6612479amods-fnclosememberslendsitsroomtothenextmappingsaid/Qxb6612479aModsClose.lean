/-
  newRoomReader, closeMembers, rows.
-/
import Derived.Test.Qxb6612479aModsMem
import Derived.RegionTactic
namespace Go.Proofs.Qxb6612479aMods.Mem
open Go.RowKit
set_option linter.unusedVariables false

theorem rows_any (r mr : Nat) (v : Value) (w : World) (h5 : w.cell? ⟨r, 5, none⟩ = some (.pointer (some ⟨mr, 0, none⟩))) (h0 : w.cell? ⟨mr, 0, none⟩ = some v) :
    Calls Trym.prog 13 #[.pointer (some ⟨r, 0, none⟩)] w fun e w' => e = .returned v ∧ w' = w := by
  go_enter Trym.func13, Trym.ntmps13
  go_wp2
  go_ret
  exact ⟨rfl, rfl⟩
theorem new_room (d : Int) (g n c : Nat) (w : World) :
    Calls Trym.prog 11 #[.int .i64 d, .slice (some ⟨g, 0, none⟩) n c] w fun e w' => e = .returned (.pointer (some ⟨w.heap.size + 1, 0, none⟩)) ∧ w'.cell? ⟨w.heap.size + 1, 5, none⟩ = some (.pointer (some ⟨w.heap.size, 0, none⟩)) ∧ w'.cell? ⟨w.heap.size + 1, 4, none⟩ = some (.int .i64 d) ∧ w'.cell? ⟨w.heap.size, 0, none⟩ = some (.slice (some ⟨g, 0, none⟩) n c) ∧ Below w.heap.size w w' ∧ w'.heap.size = w.heap.size + 2 := by
  go_enter Trym.func11, Trym.ntmps11
  go_wp2
  go_ret
  have e1 : ∀ o1 o2 : Obj, ((w.alloc o1).alloc o2).heap[w.heap.size + 1]? = some o2 := fun o1 o2 => by have := heap_alloc_new (w.alloc o1) o2; rwa [World.size_alloc] at this
  have e0 : ∀ o1 o2 : Obj, ((w.alloc o1).alloc o2).heap[w.heap.size]? = some o1 := fun o1 o2 => by rw [Below.heap_alloc _ _ _ (by simp)]; exact heap_alloc_new w o1
  refine ⟨rfl, ?_, ?_, ?_, ((Below.refl _ _).alloc (Nat.le_refl _) _).alloc (by simp) _, by simp⟩
  · rw [cell_of_row _ _ 5 _ 43 (0, 0) (e1 _ _)]; rfl
  · rw [cell_of_row _ _ 4 _ 43 (0, 0) (e1 _ _)]; rfl
  · rw [cell_of_row _ _ 0 _ 46 (0, 0) (e0 _ _)]; rfl
theorem wrap_nat {p : Nat} (hp : p ≤ 65536) : IntKind.i64.wrap (p : Int) = (p : Int) := by
  simp only [IntKind.wrap, IntKind.bits, IntKind.signed]
  simp
  omega
theorem close_any (r mr gR s c gm n cm d : Nat) (v : Value) (w : World) (h5 : w.cell? ⟨r, 5, none⟩ = some (.pointer (some ⟨mr, 0, none⟩))) (h0 : w.cell? ⟨mr, 0, none⟩ = some (.slice (some ⟨gR, 0, none⟩) s c)) (h4 : w.cell? ⟨r, 4, none⟩ = some (.int .i64 (d + 1 : Nat)))
    (hd : d < s) (hs : s ≤ 4096) (hv : w.cell? ⟨gR, d, none⟩ = some v) (hf : w.frozen? ⟨gR, d, none⟩ = false) :
    Calls Trym.prog 17 #[.pointer (some ⟨r, 0, none⟩), .slice (some ⟨gm, 0, none⟩) n cm] w fun e w' => e = .returned (.tuple #[]) ∧ w' = w.drew.setCell ⟨gR, d, none⟩ (.slice (some ⟨gm, 0, none⟩) 0 cm) := by
  have hdi : (d : Int) < (s : Int) := by omega
  have hwr : IntKind.i64.wrap (d : Int) = (d : Int) := wrap_nat (by omega)
  have hsub : ((d + 1 : Nat) : Int) - 1 = (d : Int) := by omega
  go_enter Trym.func17, Trym.ntmps17
  go_region
  go_wp2
  go_end0
  exact ⟨rfl, rfl⟩
theorem zzclose_any (r mr gR s c gm n cm d : Nat) (v : Value) (w : World) (h5 : w.cell? ⟨r, 5, none⟩ = some (.pointer (some ⟨mr, 0, none⟩))) (h0 : w.cell? ⟨mr, 0, none⟩ = some (.slice (some ⟨gR, 0, none⟩) s c)) (h4 : w.cell? ⟨r, 4, none⟩ = some (.int .i64 (d + 1 : Nat)))
    (hd : d < s) (hs : s ≤ 4096) (hv : w.cell? ⟨gR, d, none⟩ = some v) (hf : w.frozen? ⟨gR, d, none⟩ = false) :
    Calls Trym.prog 12 #[.pointer (some ⟨r, 0, none⟩), .slice (some ⟨gm, 0, none⟩) n cm] w fun e w' => e = .returned (.tuple #[]) ∧ w' = w.drew.setCell ⟨gR, d, none⟩ (.slice (some ⟨gm, 0, none⟩) 0 cm) := by
  have H : Hid (Calls Trym.prog 17 _ w _) := close_any r mr gR s c gm n cm d v w h5 h0 h4 hd hs hv hf
  go_enter Trym.func12, Trym.ntmps12
  go_wp2_with fail
  refine H.out.mono ?_
  rintro e w' ⟨rfl, h1⟩
  have R : Hid _ := h1
  clear h1
  go_wp2
  go_end0
  exact ⟨rfl, R.out⟩

/-! ### The rows and ms, as the law reads them -/
def RowsAt (B gR s D : Nat) (w : World) : Prop := gR < B ∧ ∃ cur : Array Value, w.heap[gR]? = some (.cells cur 29 (0, 0)) ∧ s ≤ cur.size ∧ ∀ j, j < s → j ≠ D → ∃ g cap, cur[j]? = some (.slice (some ⟨g, 0, none⟩) 1 cap) ∧ g < B ∧ Mem w g j j
def MsAt (gm n k0 : Nat) (w : World) : Prop := ∃ cur : Array Value, w.heap[gm]? = some (.cells cur 33 (0, 0)) ∧ n * 3 ≤ cur.size ∧ ∀ k, k0 ≤ k → k < n → cur[k * 3]? = some (.slice none 0 0) ∧ cur[k * 3 + 1]? = some (.int .i64 (k : Int)) ∧ cur[k * 3 + 2]? = some (.int .i64 (-(k : Int)))
theorem RowsAt.below {B B' gR s D : Nat} {w w' : World} (h : RowsAt B gR s D w) (hb : Below B' w w') (hB : B ≤ B') : RowsAt B gR s D w' := by
  obtain ⟨h0, cur, h1, h2, h3⟩ := h
  refine ⟨h0, cur, (hb.block gR (by omega)).trans h1, h2, fun j hj hD => ?_⟩
  obtain ⟨g, cap, e1, e2, e3⟩ := h3 j hj hD
  exact ⟨g, cap, e1, e2, e3.of_block (hb.block g (by omega))⟩
theorem MsAt.below {B' gm n k0 : Nat} {w w' : World} (h : MsAt gm n k0 w) (hb : Below B' w w') (hB : gm < B') : MsAt gm n k0 w' := by
  obtain ⟨cur, h1, h2⟩ := h
  exact ⟨cur, (hb.block gm hB).trans h1, h2⟩
theorem RowsAt.set {B gR s d : Nat} {w : World} (h : RowsAt B gR s s w) (v : Value) (hd : d < s) : RowsAt B gR s d (w.drew.setCell ⟨gR, d, none⟩ v) := by
  obtain ⟨h0, cur, h1, h2, h3⟩ := h
  have hb : (w.drew.setCell ⟨gR, d, none⟩ v).heap[gR]? = some (.cells (cur.setIfInBounds d v) 29 (0, 0)) := heap_setCell_same w.drew gR d cur 29 v h1
  refine ⟨h0, _, hb, by simpa using h2, fun j hj hD => ?_⟩
  obtain ⟨g, cap, e1, e2, e3⟩ := h3 j hj (by omega)
  refine ⟨g, cap, ?_, e2, e3.of_block ?_⟩
  · rw [Array.getElem?_setIfInBounds_ne (by omega)]; exact e1
  · refine Below.heap_setCell w.drew _ v g ?_
    rintro rfl
    obtain ⟨c, m1, _⟩ := e3
    rw [h1] at m1
    simp at m1
theorem RowsAt.cell {B gR s D j : Nat} {w : World} (h : RowsAt B gR s D w) (hj : j < s) (hD : j ≠ D) : ∃ g cap, w.cell? ⟨gR, j, none⟩ = some (.slice (some ⟨g, 0, none⟩) 1 cap) ∧ w.cell? ⟨g, 0, none⟩ = some (.slice none 0 0) ∧ w.cell? ⟨g, 1, none⟩ = some (.int .i64 j) ∧ w.cell? ⟨g, 2, none⟩ = some (.int .i64 j) := by
  obtain ⟨h0, cur, h1, h2, h3⟩ := h
  obtain ⟨g, cap, e1, e2, e3⟩ := h3 j hj hD
  exact ⟨g, cap, by rw [cell_of_row w gR j cur 29 (0, 0) h1]; exact e1, e3.cells⟩
theorem RowsAt.frozen {B gR s D j : Nat} {w : World} (h : RowsAt B gR s D w) : w.frozen? ⟨gR, j, none⟩ = false := by
  obtain ⟨h0, cur, h1, _⟩ := h
  exact frozen_of_row w gR j cur 29 h1
theorem MsAt.cell {gm n k0 k : Nat} {w : World} (h : MsAt gm n k0 w) (h1 : k0 ≤ k) (h2 : k < n) : w.cell? ⟨gm, k * 3, none⟩ = some (.slice none 0 0) ∧ w.cell? ⟨gm, k * 3 + 1, none⟩ = some (.int .i64 (k : Int)) ∧ w.cell? ⟨gm, k * 3 + 2, none⟩ = some (.int .i64 (-(k : Int))) := by
  obtain ⟨cur, e1, e2, e3⟩ := h
  obtain ⟨f1, f2, f3⟩ := e3 k h1 h2
  exact ⟨by rw [cell_of_row w gm _ cur 33 (0, 0) e1]; exact f1, by rw [cell_of_row w gm _ cur 33 (0, 0) e1]; exact f2, by rw [cell_of_row w gm _ cur 33 (0, 0) e1]; exact f3⟩
/-- The rows as the first loop leaves them. -/
theorem Rws.rowsAt {w0 w : World} {base k : Nat} {v : Value} {Rs : List Value} (h : Rws w0 base k v Rs w) (hk : 0 < k) : ∃ gR cap, v = .slice (some ⟨gR, 0, none⟩) k cap ∧ RowsAt w.heap.size gR k k w ∧ base ≤ gR := by
  obtain ⟨h1, h2, h3, h4⟩ := h
  rcases h2.2 with ⟨_, h0⟩ | ⟨g, cap, cur, rfl, r1, r2, r3, r4, r5, r6⟩
  · omega
  · refine ⟨g, cap, rfl, ⟨(Array.getElem?_eq_some_iff.1 r2).1, cur, r2, ?_, fun j hj _ => ?_⟩, r1⟩
    · have := congrArg List.length r6; simp at this; omega
    · obtain ⟨gj, cj, e1, e2⟩ := h3 j hj
      refine ⟨gj, cj, ?_, e2.lt, e2⟩
      rw [← r6, List.getElem?_take] at e1
      split at e1
      · simpa using e1
      · cases e1
theorem owns_msAt {w : World} {base n : Nat} {v : Value} (h : w.ownsRow base 33 3 v n (msF n)) (hn : 0 < n) : ∃ gm cap, v = .slice (some ⟨gm, 0, none⟩) n cap ∧ base ≤ gm ∧ gm < w.heap.size ∧ n ≤ cap ∧ MsAt gm n 0 w := by
  rcases h.2 with ⟨_, h0⟩ | ⟨g, cap, cur, rfl, r1, r2, r3, r4, r5, r6⟩
  · omega
  · refine ⟨g, cap, rfl, r1, (Array.getElem?_eq_some_iff.1 r2).1, by omega, cur, r2, ?_, fun k _ hk => ?_⟩
    · have := congrArg List.length r6; rw [msF_length] at this; simp at this; omega
    · obtain ⟨e1, e2, e3⟩ := msF_at n k hk
      have at_ : ∀ i u, (msF n)[i]? = some u → cur[i]? = some u := fun i u hu => by
        rw [← r6, List.getElem?_take] at hu
        split at hu
        · simpa using hu
        · cases hu
      exact ⟨at_ _ _ e1, at_ _ _ e2, at_ _ _ e3⟩
theorem wpList_append_first {P : Program} (w : World) {ops : Array Oper} {rest : List Oper} {o : Oper} {a : Act} {Q : Exit → Act → World → Prop} (hgd : o.guard = none) (s x : Operand) (t : TypeId)
    (ho : o.op = .call { callee := .builtin .append, args := #[s, x], argTypes := #[t, t] })
    (e : TypeId) (i : TypeInfo) (ht : P.underlying t = some (.slice e)) (hi : P.info? e = some i)
    (g cap : Nat) (cur : Array Value) (hs : a.eval s = .slice (some ⟨g, 0, none⟩) 0 cap) (hg : w.heap[g]? = some (.cells cur e (0, 0)))
    (ad : Addr) (c : Nat) (news : List Value) (hx : a.eval x = .slice (some ad) 1 c) (hl : news.length = 1 * i.size) (hnews : ∀ j u, news[j]? = some u → w.cell? (ad.add j) = some u) (h1 : ∀ u ∈ news, u.oneCell' = true)
    (hroom : 1 ≤ cap) (hfit : news.length ≤ cur.size)
    (h : ∀ w', Hid (w' = w.setRow g (news ++ cur.toList.drop news.length).toArray) → wpList P ops Q rest (a.put o.dst (.slice (some ⟨g, 0, none⟩) 1 cap)) w') : wpList P ops Q (o :: rest) a w := by
  have hr := run_append_room (P := P) w t o.type e i ht hi g 0 cap cur hg ad 1 c news hl hnews h1 (by omega) (by omega)
  simp only [Nat.zero_add, Nat.zero_mul, List.take_zero, List.nil_append] at hr
  refine wpList_plain hgd fun _ hK => ?_
  unfold Oper.wp execOp
  simp only [ho, resolve, invoke, builtin, Sem.run_bind, Sem.run_pure, Result.andThen_ok, List.map_toArray, List.map_cons, List.map_nil, hs, hx, hr]
  exact hK _ _ (h _ rfl)
/-- The push into ms's own room: ms[0] is the new member, the rest of ms is as it was. -/
theorem pushed {gm n : Nat} {w w' : World} {cur : Array Value} {a b : Int} (hg : w.heap[gm]? = some (.cells cur 33 (0, 0))) (hsz : n * 3 ≤ cur.size)
    (h : ∀ k, 0 ≤ k → k < n → cur[k * 3]? = some (.slice none 0 0) ∧ cur[k * 3 + 1]? = some (.int .i64 (k : Int)) ∧ cur[k * 3 + 2]? = some (.int .i64 (-(k : Int))))
    (hn : 0 < n) (hw : w' = w.setRow gm (([.slice none 0 0, .int .i64 a, .int .i64 b] : List Value) ++ cur.toList.drop 3).toArray) :
    MsAt gm n 1 w' ∧ Mem w' gm a b ∧ Below gm w w' ∧ w'.heap.size = w.heap.size := by
  subst hw
  have hb := setRow_heap w gm cur (([.slice none 0 0, .int .i64 a, .int .i64 b] : List Value) ++ cur.toList.drop 3).toArray 33 (0, 0) hg
  refine ⟨⟨_, hb, by simp; omega, fun k h1 h2 => ?_⟩, ⟨_, hb, rfl, rfl, rfl⟩, ⟨rfl, rfl, rfl, by simp, fun g hg => setRow_other w gm g _ (by omega)⟩, by simp⟩
  have at_ : ∀ x, 3 ≤ x → ((([.slice none 0 0, .int .i64 a, .int .i64 b] : List Value) ++ cur.toList.drop 3).toArray : Array Value)[x]? = cur[x]? := fun x hx => by
    rw [List.getElem?_toArray, List.getElem?_append_right (by simpa using hx), List.getElem?_drop]
    simp only [List.length_cons, List.length_nil, Array.getElem?_toList]
    congr 1; omega
  rw [at_ _ (by omega), at_ _ (by omega), at_ _ (by omega)]
  exact h k (by omega) h2
end Go.Proofs.Qxb6612479aMods.Mem
