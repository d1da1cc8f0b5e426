/-
  THE QUEUE OF ENVELOPES: its state in memory; the walks of push and of the small functions on it.
-/
import Derived.Test.Qxb6609212aModsEnvs
import Derived.BigQuiet
import Derived.BigRegion
import Derived.Deep.QuietTactic
import Derived.WalkSpells
import Derived.Deep.DeepCutAuto
import Derived.Laws.BitsAllLaws
namespace Go.Proofs.Qxb6609212aMods.Env
open Go.RowKit
set_option linter.unusedVariables false

theorem i64_and (a b : Nat) (ha : a < 9223372036854775808) (hb : b < 9223372036854775808) : bits .and .i64 (a : Int) (b : Int) = ((a &&& b : Nat) : Int) := by
  have hx : a &&& b ≤ a := Nat.and_le_left
  show IntKind.i64.wrap ((BitVec.ofInt 64 (a : Int) &&& BitVec.ofInt 64 (b : Int)).toNat : Int) = _
  rw [BitVec.toNat_and, ofInt_u64 a (by omega), ofInt_u64 b (by omega)]
  simp only [IntKind.wrap, IntKind.bits, IntKind.signed]
  simp
  omega
theorem and_pow {k S m : Nat} (hS : S = 2 ^ m) (hk : k < S) (hb : S ≤ 1048576) : bits .and .i64 (k : Int) ((S : Int) - 1) = (k : Int) := by
  have h1 : 1 ≤ S := by omega
  rw [show (S : Int) - 1 = ((S - 1 : Nat) : Int) by omega, i64_and k (S - 1) (by omega) (by omega), hS, Nat.and_two_pow_sub_one_eq_mod, ← hS, Nat.mod_eq_of_lt hk]

/-- The three fields: ring, head (always 0 here), n. -/
def qF (ao : Option Addr) (S k : Nat) : Nat → Value
  | 0 => .slice ao S S
  | 1 => .int .i64 0
  | _ => .int .i64 k
def nextS (k S : Nat) : Nat := if k = S then max 16 (2 * S) else S
/-- A queue that holds L in a ring of S. -/
def Que (B Q : Nat) (L : List E) (S : Nat) (w : World) : Prop :=
  B ≤ Q ∧ L.length ≤ S ∧ S ≤ 65536 ∧ ((S = 0 ∧ w.rowIs Q 51 3 (qF none 0 0)) ∨
    ∃ g m, B ≤ g ∧ Q ≠ g ∧ 16 ≤ S ∧ S = 2 ^ m ∧ w.rowIs Q 51 3 (qF (some ⟨g, 0, none⟩) S L.length) ∧ w.rowIs g 48 (6 * S) (rowF L))
/-- What push has at hand when there is room: the queue, and e in a box. -/
def Room (B Q X : Nat) (L : List E) (e : E) (S : Nat) (w : World) : Prop :=
  ∃ g m, B ≤ g ∧ Q ≠ g ∧ X ≠ g ∧ 16 ≤ S ∧ S = 2 ^ m ∧ L.length < S ∧ w.rowIs Q 51 3 (qF (some ⟨g, 0, none⟩) S L.length) ∧ w.rowIs g 48 (6 * S) (rowF L) ∧ w.rowIs X 48 6 (cellOf e)

theorem rowF_at (L : List E) (e : E) (j : Nat) (h : j / 6 = L.length) : rowF (L ++ [e]) j = cellOf e (j % 6) := by
  unfold rowF; rw [h]; simp
theorem rowF_other (L : List E) (e : E) (j : Nat) (h : j / 6 ≠ L.length) : rowF (L ++ [e]) j = rowF L j := by
  unfold rowF
  congr 1
  simp only [List.getD]
  by_cases hl : j / 6 < L.length
  · rw [List.getElem?_append_left hl]
  · rw [List.getElem?_eq_none (by simp; omega), List.getElem?_eq_none (by omega)]

/-- Six stores into element k. -/
def put6 (w : World) (g k : Nat) (e : E) : World :=
  (((((w.setCell ⟨g, k * 6, none⟩ (.int .u64 e.1)).setCell ⟨g, k * 6 + 1, none⟩ (.int .u64 e.2.1)).setCell ⟨g, k * 6 + 2, none⟩ (.int .u64 e.2.2.1)).setCell ⟨g, k * 6 + 3, none⟩ (.int .i64 e.2.2.2.1)).setCell ⟨g, k * 6 + 4, none⟩ (.int .i64 e.2.2.2.2)).setCell ⟨g, k * 6 + 5, none⟩ .nilIface
theorem put6_row {w : World} {g t n : Nat} {f : Nat → Value} (h : w.rowIs g t n f) (k : Nat) (e : E) : (put6 w g k e).rowIs g t n (fun j => if j / 6 = k then cellOf e (j % 6) else f j) := by
  refine ((((((h.set (k * 6) _).set (k * 6 + 1) _).set (k * 6 + 2) _).set (k * 6 + 3) _).set (k * 6 + 4) _).set (k * 6 + 5) _).congr ?_
  intro j hj
  by_cases hk : j / 6 = k
  · rw [if_pos hk]
    have hm : j % 6 < 6 := Nat.mod_lt _ (by omega)
    have hd : j = k * 6 + j % 6 := by omega
    generalize j % 6 = r at *
    subst hd
    match r, hm with
    | 0, _ => simp [cellOf]
    | 1, _ => simp [cellOf]
    | 2, _ => simp [cellOf]
    | 3, _ => simp [cellOf]
    | 4, _ => simp [cellOf]
    | 5, _ => simp [cellOf]
  · rw [if_neg hk]
    rw [if_neg (by omega), if_neg (by omega), if_neg (by omega), if_neg (by omega), if_neg (by omega), if_neg (by omega)]
theorem put6_other {w : World} {g b t n : Nat} {f : Nat → Value} (h : w.rowIs b t n f) (hb : b ≠ g) (k : Nat) (e : E) : (put6 w g k e).rowIs b t n f :=
  (((((h.setOther (by exact hb) _).setOther (by exact hb) _).setOther (by exact hb) _).setOther (by exact hb) _).setOther (by exact hb) _).setOther (by exact hb) _
theorem put6_below {B : Nat} {a w : World} (h : Below B a w) {g : Nat} (hg : B ≤ g) (k : Nat) (e : E) : Below B a (put6 w g k e) :=
  (((((h.setCell (by exact hg) _).setCell (by exact hg) _).setCell (by exact hg) _).setCell (by exact hg) _).setCell (by exact hg) _).setCell (by exact hg) _

theorem qF_succ (ao : Option Addr) (S k : Nat) : ∀ j, j < 3 → (if j = 2 then Value.int .i64 ((k : Int) + 1) else qF ao S k j) = qF ao S (k + 1) j := by
  intro j hj
  match j, hj with
  | 0, _ => rfl
  | 1, _ => rfl
  | 2, _ => simp [qF]

/-- What push leaves. -/
theorem que_push {B Q S g m : Nat} {L : List E} {e : E} {w wc : World} (hBQ : B ≤ Q) (hBg : B ≤ g) (hQg : Q ≠ g) (h16 : 16 ≤ S) (hS : S = 2 ^ m) (hS' : S ≤ 65536) (hl : L.length < S) (hq : wc.rowIs Q 51 3 (qF (some ⟨g, 0, none⟩) S L.length)) (hr : wc.rowIs g 48 (6 * S) (rowF L)) (hb : Below B w wc) :
    Que B Q (L ++ [e]) S ((put6 wc g L.length e).setCell ⟨Q, 2, none⟩ (.int .i64 ((L.length : Int) + 1))).drew ∧ Below B w ((put6 wc g L.length e).setCell ⟨Q, 2, none⟩ (.int .i64 ((L.length : Int) + 1))).drew := by
  refine ⟨⟨hBQ, by simp; omega, hS', .inr ⟨g, m, hBg, hQg, h16, hS, ?_, ?_⟩⟩, ?_⟩
  · rw [List.length_append]
    exact (((put6_other hq hQg _ _).set 2 _).congr (qF_succ _ _ _)).drew
  · refine World.rowIs.drew (((put6_row hr L.length e).setOther (by exact Ne.symm hQg) _).congr ?_)
    intro j hj
    by_cases h : j / 6 = L.length
    · rw [if_pos h, rowF_at L e j h]
    · rw [if_neg h, rowF_other L e j h]
  · exact ((put6_below hb hBg _ _).setCell (by exact hBQ) _).drew

theorem Trym.info48 : (Trym.prog.info? 48).map (fun i => (i.zero, i.size, i.bytes)) = some (some (.agg #[.int .u64 0, .int .u64 0, .int .u64 0, .int .i64 0, .int .i64 0, .nilIface]), 6, 56) := by kernel_rfl
theorem box_row (w : World) (a b c d n : Int) : (w.alloc (.cells #[.int .u64 a, .int .u64 b, .int .u64 c, .int .i64 d, .int .i64 n, .nilIface] 48)).rowIs w.heap.size 48 6 (cellOf (a, b, c, d, n)) := by
  refine World.rowIs_alloc w _ 48 _ ?_
  intro i hi
  simp at hi
  match i, hi with
  | 0, _ => rfl
  | 1, _ => rfl
  | 2, _ => rfl
  | 3, _ => rfl
  | 4, _ => rfl
  | 5, _ => rfl
theorem box_below {B : Nat} (w : World) (h : B ≤ w.heap.size) (o : Obj) (nq : Nat) : Below B w ((w.alloc o).drewN nq) := by
  have := (Below.refl B w).alloc h o
  exact ⟨this.os, this.tape, this.output, this.size, this.block⟩

/-- A row that is owned whole, cell by cell. -/
theorem owns_row {w : World} {base e size g n : Nat} {xs : List Value} {f : Nat → Value} (h : w.ownsRow base e size (.slice (some ⟨g, 0, none⟩) n n) n xs) (hf : ∀ j, j < n * size → xs[j]? = some (f j)) : w.rowIs g e (n * size) f := by
  rcases h.2 with ⟨h', _⟩ | ⟨g', cap, cur, h', _, hg, _, _, hcs, ht⟩
  · cases h'
  · cases h'
    refine ⟨cur, hg, hcs, fun j hj => ?_⟩
    have := hf j hj
    rw [← ht, List.getElem?_take, if_pos hj] at this
    simpa using this
/-- A row of zero envelopes. -/
theorem made_zero (n j : Nat) (hj : j < n * 6) : (madeCells (Value.cells (.agg #[.int .u64 0, .int .u64 0, .int .u64 0, .int .i64 0, .int .i64 0, .nilIface])) (n * 6)).toList[j]? = some (rowF [] j) := by
  have hm : j % 6 < 6 := Nat.mod_lt _ (by omega)
  have e : rowF [] j = cellOf zero (j % 6) := by simp [rowF]
  rw [e]
  simp only [madeCells, Value.cells, Array.getElem?_toList, Array.getElem?_map, Array.getElem?_range, hj, if_true, Option.map_some]
  show some (#[Value.int .u64 0, .int .u64 0, .int .u64 0, .int .i64 0, .int .i64 0, .nilIface][j % 6]!) = _
  generalize j % 6 = r at hm
  match r, hm with
  | 0, _ => rfl
  | 1, _ => rfl
  | 2, _ => rfl
  | 3, _ => rfl
  | 4, _ => rfl
  | 5, _ => rfl
/-- 'copy' of a whole row into another. -/
theorem copy_rows {P : Program} {w : World} {dT sT elem t : TypeId} {i : TypeInfo} (hu : P.underlying dT = some (.slice elem)) (hi : P.info? elem = some i) (hs : i.size = 6) {G g N S : Nat} {F f : Nat → Value}
    (hG : w.rowIs G t (N * 6) F) (hg : w.rowIs g t (6 * S) f) (hSN : S ≤ N) (h1 : ∀ j, (f j).oneCell' = true) :
    ∃ X, (∀ (wx : World) ty, wx.heap = w.heap → (Builtin.copy_ #[dT, sT] ty #[.slice (some ⟨G, 0, none⟩) N N, .slice (some ⟨g, 0, none⟩) S S]).run P wx = .ok (goInt S) (wx.setRow G X)) ∧
      ∀ wx : World, wx.heap = w.heap → (wx.setRow G X).rowIs G t (N * 6) (fun j => if j < 6 * S then f j else F j) := by
  obtain ⟨c, hc1, hc2, hc3⟩ := hG
  obtain ⟨d, hd1, hd2, hd3⟩ := hg
  have hlen : ((List.range (6 * S)).map f).length = S * 6 := by simp; omega
  have hnews : ∀ wx : World, wx.heap = w.heap → ∀ j u, ((List.range (6 * S)).map f)[j]? = some u → wx.cell? ((⟨g, 0, none⟩ : Addr).add j) = some u := by
    intro wx hwx j u hu'
    have hj : j < 6 * S := by have := (List.getElem?_eq_some_iff.1 hu').1; simpa using this
    rw [Addr.add_lit, Nat.zero_add, cell_of_row wx g j d t (0, 0) (by rw [hwx]; exact hd1), hd3 j hj]
    simpa [hj] using hu'
  refine ⟨(((List.range (6 * S)).map f) ++ c.toList.drop (6 * S)).toArray, ?_, ?_⟩
  · intro wx ty hwx
    have hf := run_firstCells_some (P := P) wx i.size S ⟨g, 0, none⟩ S S ((List.range (6 * S)).map f) (by rw [hs]; exact hlen) (hnews wx hwx)
    have hst := run_storeCells_at P G 0 t ((List.range (6 * S)).map f) 0 c wx (by rw [hwx]; exact hc1) (by simp; omega) (by
      intro v hv
      obtain ⟨j, _, rfl⟩ := List.mem_map.1 hv
      exact h1 j)
    simp only [Nat.add_zero, Nat.zero_add, List.take_zero, List.nil_append, List.length_map, List.length_range] at hst
    have hmin : Nat.min S N = S := Nat.min_eq_left hSN
    simp [Builtin.copy_, run_underlying hu, Builtin.lenOf, sizeOf, typeInfo, hi, hmin, hf, hst]
  · intro wx hwx
    refine ⟨_, setRow_heap wx G c _ t (0, 0) (by rw [hwx]; exact hc1), by simp; omega, ?_⟩
    intro j hj
    simp only [List.getElem?_toArray]
    by_cases h : j < 6 * S
    · rw [if_pos h, List.getElem?_append_left (by simpa using h)]; simp [h]
    · rw [if_neg h, List.getElem?_append_right (by simp; omega)]
      simp only [List.length_map, List.length_range, List.getElem?_drop, Array.getElem?_toList]
      rw [show 6 * S + (j - 6 * S) = j by omega]
      exact hc3 j hj
theorem copy_zero {P : Program} {dT sT elem : TypeId} {i : TypeInfo} (hu : P.underlying dT = some (.slice elem)) (hi : P.info? elem = some i) (wx : World) (ty : TypeId) (d s : Option Addr) (dl dc sc : Nat) :
    (Builtin.copy_ #[dT, sT] ty #[.slice d dl dc, .slice s 0 sc]).run P wx = .ok (goInt 0) wx := by
  have hl : ∀ (x : Addr), (loadCells x 0).run P wx = .ok #[] wx := fun x => by simpa using run_loadCells_list (P := P) wx x [] (by simp)
  cases d <;> cases s <;> simp [Builtin.copy_, run_underlying hu, Builtin.lenOf, Builtin.firstCells, sizeOf, typeInfo, hi, storeCells, hl]
theorem rowF_one (L : List E) (j : Nat) : (rowF L j).oneCell' = true := by
  unfold rowF
  have hm : j % 6 < 6 := Nat.mod_lt _ (by omega)
  generalize j % 6 = r at hm
  match r, hm with
  | 0, _ => rfl
  | 1, _ => rfl
  | 2, _ => rfl
  | 3, _ => rfl
  | 4, _ => rfl
  | 5, _ => rfl
theorem rowIs_grown {w w' : World} {b t n : Nat} {f : Nat → Value} {row : Option Nat} (h : w.rowIs b t n f) (hg : w.grownBy w' row) (hne : some b ≠ row) : w'.rowIs b t n f := h.of_block (hg.block b h.lt hne)

theorem rowIs_grown0 {w w' : World} {b t n nq : Nat} {f : Nat → Value} (h : w.rowIs b t n f) (hg : (w.drewN nq).grownBy w' none) : w'.rowIs b t n f := h.of_block (hg.block b h.lt (by simp))
theorem row_setRow {w : World} {b g t n : Nat} {f : Nat → Value} {X : Array Value} (h : w.rowIs b t n f) (hb : b ≠ g) : (w.setRow g X).rowIs b t n f := h.of_block (setRow_other w g b X hb)
theorem below_setRow' {B g : Nat} {w0 w : World} (hb : Below B w0 w) (hBg : B ≤ g) (cs : Array Value) : Below B w0 (w.setRow g cs) :=
  hb.trans ⟨rfl, rfl, rfl, by simp [World.setRow], fun k hk => setRow_other w g k cs (by omega)⟩
theorem copied (L : List E) {S : Nat} (h : L.length = S) (j : Nat) : (if j < 6 * S then rowF L j else rowF [] j) = rowF L j := by
  by_cases hj : j < 6 * S
  · rw [if_pos hj]
  · rw [if_neg hj]
    unfold rowF
    congr 1
    simp only [List.getD]
    rw [List.getElem?_eq_none (by simp), List.getElem?_eq_none (by omega)]
theorem pow_next {S N m : Nat} (h1 : 2 * S = N) (h2 : S = 2 ^ m) : ∃ m', N = 2 ^ m' := ⟨m + 1, by rw [← h1, h2, Nat.pow_succ]; omega⟩
theorem room_new {B Q G N S : Nat} {ao : Option Addr} {L : List E} {e : E} {w w3 : World} (hBQ : B ≤ Q) (hQ : Q < w.heap.size) (hG : w.heap.size + 1 = G) (h16 : 16 ≤ N) (hm : ∃ m, N = 2 ^ m) (hl : L.length < N)
    (Rq : w3.rowIs Q 51 3 (qF ao S L.length)) (RG : w3.rowIs G 48 (N * 6) (rowF L)) (Rx : w3.rowIs w.heap.size 48 6 (cellOf e)) (Bw : Below B w w3) :
    Room B Q w.heap.size L e N ((w3.setCell ⟨Q, 0, none⟩ (.slice (some ⟨G, 0, none⟩) N N)).setCell ⟨Q, 1, none⟩ (.int .i64 0)) ∧ Below B w ((w3.setCell ⟨Q, 0, none⟩ (.slice (some ⟨G, 0, none⟩) N N)).setCell ⟨Q, 1, none⟩ (.int .i64 0)) := by
  obtain ⟨m, hm⟩ := hm
  refine ⟨⟨G, m, by omega, by omega, by omega, h16, hm, hl, ?_, ?_, ?_⟩, ?_⟩
  · refine ((Rq.set 0 _).set 1 _).congr ?_
    intro j hj
    match j, hj with
    | 0, _ => rfl
    | 1, _ => rfl
    | 2, _ => rfl
  · rw [Nat.mul_comm]
    exact (RG.setOther (by exact (by omega : G ≠ Q)) _).setOther (by exact (by omega : G ≠ Q)) _
  · exact (Rx.setOther (by exact (by omega : w.heap.size ≠ Q)) _).setOther (by exact (by omega : w.heap.size ≠ Q)) _
  · exact (Bw.setCell (by exact hBQ) _).setCell (by exact hBQ) _

set_option maxRecDepth 100000 in
set_option maxHeartbeats 1000000 in
theorem push_any (B Q S : Nat) (L : List E) (a b c d n : Int) (w : World) (hS : S ≤ 16384) (hq : Que B Q L S w) :
    Calls Trym.prog 21 #[.pointer (some ⟨Q, 0, none⟩), .agg #[.int .u64 a, .int .u64 b, .int .u64 c, .int .i64 d, .int .i64 n, .nilIface]] w fun e w' => e = .returned (.tuple #[]) ∧ Que B Q (L ++ [(a, b, c, d, n)]) (nextS L.length S) w' ∧ Below B w w' := by
  obtain ⟨hBQ, hlS, _, hcase⟩ := hq
  obtain ⟨ao, hQr⟩ : ∃ ao, w.rowIs Q 51 3 (qF ao S L.length) := by
    rcases hcase with ⟨h0, h⟩ | ⟨g, m, _, _, _, _, h, _⟩
    · have hl0 : L.length = 0 := by omega
      rw [h0, hl0]; exact ⟨_, h⟩
    · exact ⟨_, h⟩
  have hQ := hQr.lt
  have q0 : w.cell? ⟨Q, 0, none⟩ = some (.slice ao S S) := hQr.cell (by omega)
  have q1 : w.cell? ⟨Q, 1, none⟩ = some (.int .i64 0) := hQr.cell (by omega)
  have q2 : w.cell? ⟨Q, 2, none⟩ = some (.int .i64 L.length) := hQr.cell (by omega)
  have HC : Hid _ := hcase
  have HR : Hid _ := hQr
  clear hcase hQr
  go_enter Trym.func21, Trym.ntmps21
  go_wp2
  go_quiet (fail)
  go_upto_if 15 with fail
  go_cut [4, 5] (fun s4 s5 wc => Room B Q w.heap.size L (a, b, c, d, n) (nextS L.length S) wc ∧ Below B w wc)
  case first =>
    by_cases hk : L.length = S
    · have hne : ((L.length : Int) == (S : Int)) = true := by simp; omega
      obtain ⟨i48, hi, hz0, hz1, hz2⟩ := info_parts Trym.info48
      have hz := fun wx ty d s dl dc sc => copy_zero (sT := 41) Trym.underlying41 hi wx ty d s dl dc sc
      have HK : Hid (L.length = S) := hk
      rcases HC.out with ⟨h0, hq0⟩ | ⟨g, m, hBg, hQg, h16, hSm, h1, h2⟩
      · subst h0
        have HL : Hid (L = []) := List.eq_nil_of_length_eq_zero hk
        have h1 : w.rowIs Q 51 3 (qF none 0 L.length) := by rw [hk]; exact hq0
        obtain ⟨N, hN⟩ : ∃ N : Nat, 16 = N := ⟨_, rfl⟩
        have hN1 : (16 : Int) = (N : Int) := by omega
        have hNb : N ≤ 65536 := by omega
        have hao : ao = none := by
          have e1 := h1.cell (i := 0) (by omega)
          rw [q0] at e1
          simpa [qF] using e1
        subst hao
        have HN : Hid (16 = N) := hN
        clear hN hN1 hq0 q0 q1
        have q0 : w.cell? ⟨Q, 0, none⟩ = some (.slice none 0 0) := h1.cell (by omega)
        have q1 : w.cell? ⟨Q, 1, none⟩ = some (.int .i64 0) := h1.cell (by omega)
        clear hk HC HR
        go_upto_region 3 with (first | (at_make; refine wpList_make_full _ rfl _ _ 41 rfl B 48 i48 (.agg #[.int .u64 0, .int .u64 0, .int .u64 0, .int .i64 0, .int .i64 0, .nilIface]) 6 Trym.underlying41 hi hz0 hz1 _ _ _ _ N rfl rfl ?_ ?_ ?_ ?_ ?_ ?_))
        · have := HN.out; omega
        · have := HN.out; omega
        · rw [hz2]; omega
        · unfold maxLen; omega
        · simp; omega
        intro w1 ho1 hg1
        have hG : w.heap.size + 1 < w1.heap.size := (ho1.lt _ rfl).2
        have R1 : w1.rowIs (w.heap.size + 1) 48 (N * 6) (rowF []) := owns_row ho1 (made_zero N)
        have Rq : w1.rowIs Q 51 3 (qF none 0 L.length) := rowIs_grown0 (h1.alloc _) hg1
        have Rx : w1.rowIs w.heap.size 48 6 (cellOf (a, b, c, d, n)) := rowIs_grown0 (box_row w a b c d n) hg1
        have Bw : Below B w w1 := (box_below w (by omega) _ _).grown hg1 (by simp; omega) (by intro k h; cases h)
        have HCP : Hid True := trivial
        have HG : Hid (w1.drew.rowIs Q 51 3 (qF none 0 L.length) ∧ w1.drew.rowIs (w.heap.size + 1) 48 (N * 6) (rowF L) ∧ w1.drew.rowIs w.heap.size 48 6 (cellOf (a, b, c, d, n)) ∧ Below B w w1.drew) := by
          rw [HL.out]; rw [HL.out] at Rq
          exact ⟨Rq.drew, R1.drew, Rx.drew, Bw.drew⟩
        have q0 : w1.cell? ⟨Q, 0, none⟩ = some (.slice none 0 0) := Rq.cell (by omega)
        have q1 : w1.cell? ⟨Q, 1, none⟩ = some (.int .i64 0) := Rq.cell (by omega)
        have HH : Hid (w1.rowIs Q 51 3 (qF none 0 L.length) ∧ w1.rowIs w.heap.size 48 6 (cellOf (a, b, c, d, n)) ∧ Below B w w1) := ⟨Rq, Rx, Bw⟩
        obtain ⟨G, hGG⟩ : ∃ G, w.heap.size + 1 = G := ⟨_, rfl⟩
        rw [hGG] at HG
        rw [hGG]
        have HGG : Hid (w.heap.size + 1 = G) := hGG
        have HCP2 := HCP.out
        clear ho1 hg1 Rq Rx Bw R1 h1 hGG hG
        go_upto_region 3 with fail
        go_cut [5] (fun s5 wc => s5 = .int .i64 0 ∧ wc.rowIs Q 51 3 (qF none 0 L.length) ∧ wc.rowIs G 48 (N * 6) (rowF L) ∧ wc.rowIs w.heap.size 48 6 (cellOf (a, b, c, d, n)) ∧ Below B w wc)
        case first =>
          go_region
          go_wp2
          go_meet
          case rel => exact ⟨rfl, HG.out⟩
        case rest =>
        rename World => w2
        obtain ⟨rfl, Rq, RG, Rx, Bw⟩ := hcut
        have q0 : w2.cell? ⟨Q, 0, none⟩ = some (.slice none 0 0) := Rq.cell (by omega)
        have q1 : w2.cell? ⟨Q, 1, none⟩ = some (.int .i64 0) := Rq.cell (by omega)
        have HH2 : Hid (w2.rowIs Q 51 3 (qF none 0 L.length) ∧ w2.rowIs G 48 (N * 6) (rowF L) ∧ w2.rowIs w.heap.size 48 6 (cellOf (a, b, c, d, n)) ∧ Below B w w2) := ⟨Rq, RG, Rx, Bw⟩
        clear HCP2 HCP HG HH Rq RG Rx Bw
        go_upto_region 4 with fail
        go_cut [47] (fun s47 wc => wc.rowIs Q 51 3 (qF none 0 L.length) ∧ wc.rowIs G 48 (N * 6) (rowF L) ∧ wc.rowIs w.heap.size 48 6 (cellOf (a, b, c, d, n)) ∧ Below B w wc)
        case first =>
          go_region
          go_wp2
          go_meet
          case rel => exact ⟨HH2.out.1.drew, HH2.out.2.1.drew, HH2.out.2.2.1.drew, HH2.out.2.2.2.drew⟩
        case rest =>
        rename World => w3
        obtain ⟨Rq, RG, Rx, Bw⟩ := hcut
        have q0 : w3.cell? ⟨Q, 0, none⟩ = some (.slice none 0 0) := Rq.cell (by omega)
        have q1 : w3.cell? ⟨Q, 1, none⟩ = some (.int .i64 0) := Rq.cell (by omega)
        have z0 : w3.frozen? ⟨Q, 0, none⟩ = false := Rq.frozen 0
        have z1 : w3.frozen? ⟨Q, 1, none⟩ = false := Rq.frozen 1
        have R : Hid (Room B Q w.heap.size L (a, b, c, d, n) (nextS L.length 0) ((w3.setCell ⟨Q, 0, none⟩ (.slice (some ⟨G, 0, none⟩) N N)).setCell ⟨Q, 1, none⟩ (.int .i64 0)) ∧ Below B w ((w3.setCell ⟨Q, 0, none⟩ (.slice (some ⟨G, 0, none⟩) N N)).setCell ⟨Q, 1, none⟩ (.int .i64 0))) := by
          rw [show nextS L.length 0 = N by unfold nextS; rw [if_pos HK.out, ← HN.out]; rfl]
          exact room_new hBQ hQ HGG.out (by have := HN.out; omega) ⟨4, by rw [← HN.out]⟩ (by have := HN.out; have := HK.out; omega) Rq RG Rx Bw
        clear HH2 Rq RG Rx Bw
        go_wp2
        go_meet
        case rel => exact R.out
      · obtain ⟨N, hN⟩ : ∃ N : Nat, 2 * S = N := ⟨_, rfl⟩
        have hN1 : 2 * (S : Int) = (N : Int) := by omega
        have hNb : N ≤ 65536 := by omega
        have hSN : (S : Int) ≤ (N : Int) := by omega
        have hao : ao = some ⟨g, 0, none⟩ := by
          have e1 := h1.cell (i := 0) (by omega)
          rw [q0] at e1
          simpa [qF] using e1
        subst hao
        have HN : Hid (2 * S = N ∧ S = 2 ^ m) := ⟨hN, hSm⟩
        have hgl := h2.lt
        clear hN hSm
        clear hk HC HR
        go_upto_region 3 with (first | (at_make; refine wpList_make_full _ rfl _ _ 41 rfl B 48 i48 (.agg #[.int .u64 0, .int .u64 0, .int .u64 0, .int .i64 0, .int .i64 0, .nilIface]) 6 Trym.underlying41 hi hz0 hz1 _ _ _ _ N rfl rfl ?_ ?_ ?_ ?_ ?_ ?_))
        · first | exact rfl | simp
        · first | exact rfl | simp
        · rw [hz2]; omega
        · unfold maxLen; omega
        · simp; omega
        intro w1 ho1 hg1
        have hG : w.heap.size + 1 < w1.heap.size := (ho1.lt _ rfl).2
        have R1 : w1.rowIs (w.heap.size + 1) 48 (N * 6) (rowF []) := owns_row ho1 (made_zero N)
        have Rq : w1.rowIs Q 51 3 (qF (some ⟨g, 0, none⟩) S L.length) := rowIs_grown0 (h1.alloc _) hg1
        have Rx : w1.rowIs w.heap.size 48 6 (cellOf (a, b, c, d, n)) := rowIs_grown0 (box_row w a b c d n) hg1
        have Bw : Below B w w1 := (box_below w (by omega) _ _).grown hg1 (by simp; omega) (by intro k h; cases h)
        have Rg : w1.rowIs g 48 (6 * S) (rowF L) := rowIs_grown0 (h2.alloc _) hg1
        obtain ⟨X, hc1, hc2⟩ := copy_rows (sT := 41) Trym.underlying41 hi hz1 R1 Rg (by have := HN.out.1; omega) (rowF_one L)
        have HCP : Hid (∀ ty, (Builtin.copy_ #[41, 41] ty #[.slice (some ⟨w.heap.size + 1, 0, none⟩) N N, .slice (some ⟨g, 0, none⟩) S S]).run Trym.prog w1.drew = .ok (goInt S) (w1.drew.setRow (w.heap.size + 1) X)) := fun ty => hc1 w1.drew ty rfl
        have HG : Hid ((w1.drew.setRow (w.heap.size + 1) X).rowIs Q 51 3 (qF (some ⟨g, 0, none⟩) S L.length) ∧ (w1.drew.setRow (w.heap.size + 1) X).rowIs (w.heap.size + 1) 48 (N * 6) (rowF L) ∧ (w1.drew.setRow (w.heap.size + 1) X).rowIs w.heap.size 48 6 (cellOf (a, b, c, d, n)) ∧ Below B w (w1.drew.setRow (w.heap.size + 1) X)) := by
          refine ⟨row_setRow Rq.drew (by omega), (hc2 w1.drew rfl).congr ?_, row_setRow Rx.drew (by omega), below_setRow' Bw.drew (by omega) X⟩
          intro j hj
          exact copied L HK.out j
        have q0 : w1.cell? ⟨Q, 0, none⟩ = some (.slice (some ⟨g, 0, none⟩) S S) := Rq.cell (by omega)
        have q1 : w1.cell? ⟨Q, 1, none⟩ = some (.int .i64 0) := Rq.cell (by omega)
        have HH : Hid (w1.rowIs Q 51 3 (qF (some ⟨g, 0, none⟩) S L.length) ∧ w1.rowIs w.heap.size 48 6 (cellOf (a, b, c, d, n)) ∧ Below B w w1) := ⟨Rq, Rx, Bw⟩
        obtain ⟨G, hGG⟩ : ∃ G, w.heap.size + 1 = G := ⟨_, rfl⟩
        rw [hGG] at HCP HG
        rw [hGG]
        have HGG : Hid (w.heap.size + 1 = G) := hGG
        have HCP2 := HCP.out
        clear ho1 hg1 Rq Rx Bw R1 h1 hGG hG
        go_upto_region 3 with fail
        go_cut [5] (fun s5 wc => s5 = .int .i64 S ∧ wc.rowIs Q 51 3 (qF (some ⟨g, 0, none⟩) S L.length) ∧ wc.rowIs G 48 (N * 6) (rowF L) ∧ wc.rowIs w.heap.size 48 6 (cellOf (a, b, c, d, n)) ∧ Below B w wc)
        case first =>
          go_region
          go_wp2
          go_meet
          case rel => exact ⟨rfl, HG.out⟩
        case rest =>
        rename World => w2
        obtain ⟨rfl, Rq, RG, Rx, Bw⟩ := hcut
        have q0 : w2.cell? ⟨Q, 0, none⟩ = some (.slice (some ⟨g, 0, none⟩) S S) := Rq.cell (by omega)
        have q1 : w2.cell? ⟨Q, 1, none⟩ = some (.int .i64 0) := Rq.cell (by omega)
        have HH2 : Hid (w2.rowIs Q 51 3 (qF (some ⟨g, 0, none⟩) S L.length) ∧ w2.rowIs G 48 (N * 6) (rowF L) ∧ w2.rowIs w.heap.size 48 6 (cellOf (a, b, c, d, n)) ∧ Below B w w2) := ⟨Rq, RG, Rx, Bw⟩
        clear HCP2 HCP HG HH Rq RG Rx Bw
        go_upto_region 4 with fail
        go_cut [47] (fun s47 wc => wc.rowIs Q 51 3 (qF (some ⟨g, 0, none⟩) S L.length) ∧ wc.rowIs G 48 (N * 6) (rowF L) ∧ wc.rowIs w.heap.size 48 6 (cellOf (a, b, c, d, n)) ∧ Below B w wc)
        case first =>
          go_region
          go_wp2
          go_meet
          case rel => exact ⟨HH2.out.1.drew, HH2.out.2.1.drew, HH2.out.2.2.1.drew, HH2.out.2.2.2.drew⟩
        case rest =>
        rename World => w3
        obtain ⟨Rq, RG, Rx, Bw⟩ := hcut
        have q0 : w3.cell? ⟨Q, 0, none⟩ = some (.slice (some ⟨g, 0, none⟩) S S) := Rq.cell (by omega)
        have q1 : w3.cell? ⟨Q, 1, none⟩ = some (.int .i64 0) := Rq.cell (by omega)
        have z0 : w3.frozen? ⟨Q, 0, none⟩ = false := Rq.frozen 0
        have z1 : w3.frozen? ⟨Q, 1, none⟩ = false := Rq.frozen 1
        have R : Hid (Room B Q w.heap.size L (a, b, c, d, n) (nextS L.length S) ((w3.setCell ⟨Q, 0, none⟩ (.slice (some ⟨G, 0, none⟩) N N)).setCell ⟨Q, 1, none⟩ (.int .i64 0)) ∧ Below B w ((w3.setCell ⟨Q, 0, none⟩ (.slice (some ⟨G, 0, none⟩) N N)).setCell ⟨Q, 1, none⟩ (.int .i64 0))) := by
          rw [show nextS L.length S = N by unfold nextS; rw [if_pos HK.out, ← HN.out.1]; omega]
          exact room_new hBQ hQ HGG.out (by have := HN.out.1; omega) (pow_next HN.out.1 HN.out.2) (by have := HN.out.1; have := HK.out; omega) Rq RG Rx Bw
        clear HH2 Rq RG Rx Bw
        go_wp2
        go_meet
        case rel => exact R.out
    · have hne : ((L.length : Int) == (S : Int)) = false := by simp; omega
      have hlt : L.length < S := by omega
      obtain ⟨g, m, hBg, hQg, h16, hSm, h1, h2⟩ : ∃ g m, B ≤ g ∧ Q ≠ g ∧ 16 ≤ S ∧ S = 2 ^ m ∧ w.rowIs Q 51 3 (qF (some ⟨g, 0, none⟩) S L.length) ∧ w.rowIs g 48 (6 * S) (rowF L) := by
        rcases HC.out with ⟨h0, _⟩ | h
        · omega
        · exact h
      have R : Hid (∀ nq, Room B Q w.heap.size L (a, b, c, d, n) (nextS L.length S) ((w.alloc (.cells #[.int .u64 a, .int .u64 b, .int .u64 c, .int .i64 d, .int .i64 n, .nilIface] 48)).drewN nq) ∧ Below B w ((w.alloc (.cells #[.int .u64 a, .int .u64 b, .int .u64 c, .int .i64 d, .int .i64 n, .nilIface] 48)).drewN nq)) := fun nq => by
        have hl := h2.lt
        unfold nextS
        rw [if_neg hk]
        exact ⟨⟨g, m, hBg, hQg, by omega, h16, hSm, hlt, h1.alloc _, h2.alloc _, box_row _ _ _ _ _ _⟩, box_below _ (by omega) _ _⟩
      clear hk h1 h2 HC HR hSm
      go_wp2
      go_meet
      case rel => exact R.out _
  case rest =>
    rename World => wc
    obtain ⟨⟨g, m, hBg, hQg, hXg, h16, hSm, hlt, hqr, hr, hx⟩, hb⟩ := hcut
    have hN : nextS L.length S ≤ 65536 := by unfold nextS; split <;> omega
    obtain ⟨T, hT⟩ : ∃ T, Hid (nextS L.length S = T) := ⟨_, rfl⟩
    rw [hT.out] at h16 hSm hlt hqr hr hN
    have hand := and_pow hSm hlt (by omega)
    have q0 : wc.cell? ⟨Q, 0, none⟩ = some (.slice (some ⟨g, 0, none⟩) T T) := hqr.cell (by omega)
    have q1 : wc.cell? ⟨Q, 1, none⟩ = some (.int .i64 0) := hqr.cell (by omega)
    have q2 : wc.cell? ⟨Q, 2, none⟩ = some (.int .i64 L.length) := hqr.cell (by omega)
    have z2 : wc.frozen? ⟨Q, 2, none⟩ = false := hqr.frozen 2
    have x0 : wc.cell? ⟨w.heap.size, 0, none⟩ = some (.int .u64 a) := hx.cell (by omega)
    have x1 : wc.cell? ⟨w.heap.size, 1, none⟩ = some (.int .u64 b) := hx.cell (by omega)
    have x2 : wc.cell? ⟨w.heap.size, 2, none⟩ = some (.int .u64 c) := hx.cell (by omega)
    have x3 : wc.cell? ⟨w.heap.size, 3, none⟩ = some (.int .i64 d) := hx.cell (by omega)
    have x4 : wc.cell? ⟨w.heap.size, 4, none⟩ = some (.int .i64 n) := hx.cell (by omega)
    have x5 : wc.cell? ⟨w.heap.size, 5, none⟩ = some .nilIface := hx.cell (by omega)
    have f : ∀ j, wc.frozen? ⟨g, j, none⟩ = false := hr.frozen
    have R := que_push (e := (a, b, c, d, n)) hBQ hBg hQg h16 hSm hN hlt hqr hr hb
    obtain ⟨k, hk⟩ : ∃ k, Hid (L.length = k) := ⟨_, rfl⟩
    have RR : Hid (Que B Q (L ++ [(a, b, c, d, n)]) T ((put6 wc g k (a, b, c, d, n)).setCell ⟨Q, 2, none⟩ (.int .i64 ((k : Int) + 1))).drew ∧ Below B w ((put6 wc g k (a, b, c, d, n)).setCell ⟨Q, 2, none⟩ (.int .i64 ((k : Int) + 1))).drew) := by rw [← hk.out]; exact R
    rw [hk.out] at hand q2 hlt
    obtain ⟨v0, c0⟩ : ∃ v, wc.cell? ⟨g, k * 6, none⟩ = some v := ⟨_, hr.cell (by omega)⟩
    obtain ⟨v1, c1⟩ : ∃ v, wc.cell? ⟨g, k * 6 + 1, none⟩ = some v := ⟨_, hr.cell (by omega)⟩
    obtain ⟨v2, c2⟩ : ∃ v, wc.cell? ⟨g, k * 6 + 2, none⟩ = some v := ⟨_, hr.cell (by omega)⟩
    obtain ⟨v3, c3⟩ : ∃ v, wc.cell? ⟨g, k * 6 + 3, none⟩ = some v := ⟨_, hr.cell (by omega)⟩
    obtain ⟨v4, c4⟩ : ∃ v, wc.cell? ⟨g, k * 6 + 4, none⟩ = some v := ⟨_, hr.cell (by omega)⟩
    obtain ⟨v5, c5⟩ : ∃ v, wc.cell? ⟨g, k * 6 + 5, none⟩ = some v := ⟨_, hr.cell (by omega)⟩
    have hki : (k : Int) < (T : Int) := by omega
    clear R hr hqr hx hb HC HR hSm
    go_wp2
    go_region
    go_wp2
    go_end0
    rw [hT.out]
    exact ⟨rfl, RR.out⟩
end Go.Proofs.Qxb6609212aMods.Env
