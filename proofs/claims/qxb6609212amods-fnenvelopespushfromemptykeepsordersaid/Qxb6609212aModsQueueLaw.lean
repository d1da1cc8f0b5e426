/-
  THE LAW FnEnvelopesPushFromEmptyKeepsOrder: the small functions, the loops, the whole.
-/
import Derived.Test.Qxb6609212aModsQueue
import Derived.Test.Qxb6609212aModsOpen
import Derived.Deep.RegionHeld3
import Derived.Deep.CutBlock
namespace Go.Proofs.Qxb6609212aMods.Env
open Go.RowKit
set_option linter.unusedVariables false

theorem zero_any (w : World) : Calls Trym.prog 15 #[] w fun e w' => e = .returned (.pointer (some ⟨w.heap.size, 0, none⟩)) ∧ Que w.heap.size w.heap.size [] 0 w' ∧ Below w.heap.size w w' := by
  have R : Hid (Que w.heap.size w.heap.size [] 0 (w.alloc (.cells #[.slice none 0 0, .int .i64 0, .int .i64 0] 51)) ∧ Below w.heap.size w (w.alloc (.cells #[.slice none 0 0, .int .i64 0, .int .i64 0] 51))) := by
    refine ⟨⟨Nat.le_refl _, by simp, by omega, .inl ⟨rfl, ?_⟩⟩, (Below.refl _ _).alloc (Nat.le_refl _) _⟩
    refine World.rowIs_alloc w _ 51 _ ?_
    intro i hi
    simp at hi
    match i, hi with
    | 0, _ => rfl
    | 1, _ => rfl
    | 2, _ => rfl
  go_enter Trym.func15, Trym.ntmps15
  go_wp2
  go_ret
  exact ⟨rfl, R.out⟩

theorem zzpush_any (B Q S : Nat) (L : List E) (a b c d n : Int) (w : World) (hS : S ≤ 16384) (hq : Que B Q L S w) :
    Calls Trym.prog 16 #[.pointer (some ⟨Q, 0, none⟩), .int .u64 a, .int .u64 b, .int .u64 c, .int .i64 d, .int .i64 n] w fun e w' => e = .returned (.tuple #[]) ∧ Que B Q (L ++ [(a, b, c, d, n)]) (nextS L.length S) w' ∧ Below B w w' := by
  have H : Hid (Calls Trym.prog 21 _ w _) := push_any B Q S L a b c d n w hS hq
  go_enter Trym.func16, Trym.ntmps16
  go_wp2_with fail
  refine H.out.mono ?_
  rintro e w' ⟨rfl, h1, h2⟩
  have R : Hid _ := And.intro h1 h2
  clear h1 h2 hq
  go_wp2
  go_end0
  exact ⟨rfl, R.out⟩

/-- The ring's fields, whatever they are. -/
theorem que_cells {B Q S : Nat} {L : List E} {w : World} (hq : Que B Q L S w) : ∃ ao, w.rowIs Q 51 3 (qF ao S L.length) ∧ (0 < S → ∃ g, ao = some ⟨g, 0, none⟩ ∧ w.rowIs g 48 (6 * S) (rowF L)) := by
  obtain ⟨_, hl, _, ⟨h0, h⟩ | ⟨g, m, _, _, _, _, h, h2⟩⟩ := hq
  · have hl0 : L.length = 0 := by omega
    rw [h0, hl0]
    exact ⟨_, h, fun h => by omega⟩
  · exact ⟨_, h, fun _ => ⟨g, rfl, h2⟩⟩

theorem state_any (B Q S : Nat) (L : List E) (w : World) (hq : Que B Q L S w) :
    Calls Trym.prog 17 #[.pointer (some ⟨Q, 0, none⟩)] w fun e w' => e = .returned (.tuple #[.int .i64 S, .int .i64 0, .int .i64 L.length]) ∧ ∃ nq, w' = w.drewN nq := by
  obtain ⟨ao, hr, _⟩ := que_cells hq
  have q0 : w.cell? ⟨Q, 0, none⟩ = some (.slice ao S S) := hr.cell (by omega)
  have q1 : w.cell? ⟨Q, 1, none⟩ = some (.int .i64 0) := hr.cell (by omega)
  have q2 : w.cell? ⟨Q, 2, none⟩ = some (.int .i64 L.length) := hr.cell (by omega)
  clear hr hq
  go_enter Trym.func17, Trym.ntmps17
  go_wp2
  go_quiet (fail)
  go_wp2
  go_ret3
  exact ⟨rfl, _, rfl⟩

set_option maxHeartbeats 800000 in
theorem at_any (B Q S i : Nat) (L : List E) (w : World) (hq : Que B Q L S w) (hi : i < S) (hS : S ≤ 65536) :
    Calls Trym.prog 18 #[.pointer (some ⟨Q, 0, none⟩), .int .i64 i] w fun e w' => e = .returned (.tuple #[.int .u64 (L.getD i zero).1, .int .u64 (L.getD i zero).2.1, .int .u64 (L.getD i zero).2.2.1, .int .i64 (L.getD i zero).2.2.2.1, .int .i64 (L.getD i zero).2.2.2.2]) ∧ Below w.heap.size w w' := by
  obtain ⟨ao, hr, hg⟩ := que_cells hq
  obtain ⟨g, rfl, h2⟩ := hg (by omega)
  have q0 : w.cell? ⟨Q, 0, none⟩ = some (.slice (some ⟨g, 0, none⟩) S S) := hr.cell (by omega)
  have rw6 : ∀ j, j < 6 → rowF L (i * 6 + j) = cellOf (L.getD i zero) j := fun j hj => by
    unfold rowF; rw [show (i * 6 + j) / 6 = i by omega, show (i * 6 + j) % 6 = j by omega]
  have c0 := h2.cell (i := i * 6) (by omega)
  have c1 := h2.cell (i := i * 6 + 1) (by omega)
  have c2 := h2.cell (i := i * 6 + 2) (by omega)
  have c3 := h2.cell (i := i * 6 + 3) (by omega)
  have c4 := h2.cell (i := i * 6 + 4) (by omega)
  have c5 := h2.cell (i := i * 6 + 5) (by omega)
  rw [show i * 6 = i * 6 + 0 by omega, rw6 0 (by omega), Nat.add_zero] at c0
  rw [rw6 1 (by omega)] at c1
  rw [rw6 2 (by omega)] at c2
  rw [rw6 3 (by omega)] at c3
  rw [rw6 4 (by omega)] at c4
  rw [rw6 5 (by omega)] at c5
  obtain ⟨⟨a, b, c, d, n⟩, hE⟩ : ∃ e, L.getD i zero = e := ⟨_, rfl⟩
  rw [hE] at c0 c1 c2 c3 c4 c5 ⊢
  simp only [cellOf] at c0 c1 c2 c3 c4 c5
  have hii : (i : Int) < (S : Int) := by omega
  clear hr hg h2 rw6 hE hq
  go_enter Trym.func18, Trym.ntmps18
  go_wp2
  go_quiet (fail)
  go_wp2
  exact bodyPost_ret (v := .tuple #[.int .u64 a, .int .u64 b, .int .u64 c, .int .i64 d, .int .i64 n]) (by simp [results, Trym.results18, go_sem]) rfl ⟨rfl, box_below _ (Nat.le_refl _) _ _⟩

theorem bytes14 (a0 : Option Addr) (l0 c0 : Nat) (w : World) (h0 : l0 ≤ maxLen) :
    Calls Trym.prog 14 #[.slice a0 l0 c0] w fun e w' => (∃ ok, e = .returned (.bool ok)) ∧ w' = w := by
  unfold maxLen at h0
  go_enter Trym.func14, Trym.ntmps14
  go_wp2
  all_goals (go_ret; exact ⟨⟨_, rfl⟩, rfl⟩)

/-! ### The ring's size: the least power of two from 16 on -/
def ringS : Nat → Nat
  | 0 => 0
  | k + 1 => nextS k (ringS k)
theorem ringS_inv : ∀ m, 0 < m → ∃ j, ringS m = 16 * 2 ^ j ∧ m ≤ 16 * 2 ^ j ∧ (j = 0 ∨ 16 * 2 ^ (j - 1) < m)
  | 0, h => absurd h (by omega)
  | 1, _ => ⟨0, by simp [ringS, nextS], by simp, .inl rfl⟩
  | m + 2, _ => by
    obtain ⟨j, h1, h2, h3⟩ := ringS_inv (m + 1) (by omega)
    by_cases he : m + 1 = 16 * 2 ^ j
    · refine ⟨j + 1, ?_, by rw [Nat.pow_succ]; omega, .inr (by rw [Nat.add_sub_cancel]; omega)⟩
      rw [ringS, nextS, h1, if_pos he, Nat.pow_succ]
      omega
    · refine ⟨j, ?_, by omega, ?_⟩
      · rw [ringS, nextS, h1, if_neg he]
      · rcases h3 with h | h
        · exact .inl h
        · exact .inr (by omega)
theorem pow_le {i j : Nat} (h : i ≤ j) : 16 * 2 ^ i ≤ 16 * 2 ^ j := Nat.mul_le_mul_left _ (Nat.pow_le_pow_right (by omega) h)
theorem ringS_is {m j : Nat} (hm : 0 < m) (h2 : m ≤ 16 * 2 ^ j) (h3 : j = 0 ∨ 16 * 2 ^ (j - 1) < m) : ringS m = 16 * 2 ^ j := by
  obtain ⟨i, g1, g2, g3⟩ := ringS_inv m hm
  rcases Nat.lt_trichotomy i j with h | h | h
  · have := pow_le (show i ≤ j - 1 by omega); omega
  · rw [g1, h]
  · have := pow_le (show j ≤ i - 1 by omega); omega
theorem ringS_le {m : Nat} (h : m ≤ 16384) : ringS m ≤ 16384 := by
  by_cases h0 : m = 0
  · subst h0; simp [ringS]
  · obtain ⟨j, h1, h2, h3⟩ := ringS_inv m (by omega)
    rw [h1]
    rcases h3 with h | h
    · subst h; simp
    · by_cases hj : j ≤ 10
      · exact Nat.le_trans (pow_le hj) (by decide)
      · have := pow_le (show 10 ≤ j - 1 by omega)
        have : 16 * 2 ^ 10 = 16384 := by decide
        omega

theorem take_snoc (es : List E) (k : Nat) (h : k < es.length) : es.take k ++ [es.getD k zero] = es.take (k + 1) := by
  rw [List.take_succ_eq_append_getElem h]; simp [List.getD, h]

theorem Que.below {B Q S : Nat} {L : List E} {w w' : World} (hq : Que B Q L S w) (hb : Below w.heap.size w w') : Que B Q L S w' := by
  obtain ⟨h1, h2, h3, ⟨h0, h⟩ | ⟨g, m, e1, e2, e3, e4, h, h'⟩⟩ := hq
  · exact ⟨h1, h2, h3, .inl ⟨h0, h.of_block (hb.block Q h.lt)⟩⟩
  · exact ⟨h1, h2, h3, .inr ⟨g, m, e1, e2, e3, e4, h.of_block (hb.block Q h.lt), h'.of_block (hb.block g h'.lt)⟩⟩

theorem below_box {w0 w : World} (h : Below w0.heap.size w0 w) (o : Obj) (nq : Nat) : Below w0.heap.size w0 ((w.alloc o).drewN nq) := by
  have := h.alloc h.size o
  exact ⟨this.os, this.tape, this.output, this.size, this.block⟩

set_option maxRecDepth 100000 in
set_option maxHeartbeats 2000000 in
theorem queue_main (b off m cap : Nat) (es : List E) (w : World) (hm : es.length = m) (hm0 : 0 < m) (hm1 : m ≤ 16384) (hb : b < w.heap.size)
    (hc : ∀ i, i < m → At5 w b off i (es.getD i zero)) :
    Calls Trym.prog 5 #[.slice (some ⟨b, off, none⟩) m cap] w fun e w' => e = .returned (.bool true) ∧ Below w.heap.size w w' := by
  have H5 : Hid (Calls Trym.prog 14 _ w _) := bytes14 (some ⟨b, off, none⟩) m cap w (by unfold maxLen; omega)
  have HM : Hid (es.length = m) := hm
  have HC : Hid (∀ i, i < m → At5 w b off i (es.getD i zero)) := hc
  have t0 : decide ((16384 : Int) < (m : Int)) = false := decide_eq_false (by omega)
  clear hm hc
  go_enter Trym.func5, Trym.ntmps5
  go_wp2_with fail
  refine H5.out.mono ?_
  clear H5
  rintro e w' ⟨⟨ok, rfl⟩, hw⟩
  obtain rfl : w = w' := hw.symm
  cases ok with
  | false =>
    go_wp2
    go_ret
    exact ⟨rfl, Below.refl _ _⟩
  | true =>
  go_wp2_with fail
  refine (zero_any w).mono ?_
  rintro e w1 ⟨rfl, hq1, hb1⟩
  obtain ⟨Q, hQ⟩ : ∃ Q, Hid (w.heap.size = Q) := ⟨_, rfl⟩
  rw [hQ.out] at hq1 hb1 hb
  rw [hQ.out]
  have H1 : Hid (Que Q Q [] 0 w1 ∧ Below Q w w1) := ⟨hq1, hb1⟩
  clear hq1 hb1
  go_upto_block 0 with fail
  go_cut [4] (fun i wc => Que Q Q es (ringS m) wc ∧ Below Q w wc)
  case first =>
    go_wp2
    go_loopg [4] m (fun g i wr => ∃ k : Nat, k ≤ m ∧ Hid (k + g = m) ∧ i = .int .i64 k ∧ Que Q Q (es.take k) (ringS k) wr ∧ Below Q w wr)
    case atStart => exact ⟨0, by omega, Nat.zero_add _, rfl, H1.out⟩
    case round =>
      obtain ⟨k, hk, hkg, rfl, hq, hbw⟩ := hrel
      clear H1
      by_cases hlt : k < m
      · obtain ⟨c0, c1, c2, c3, c4⟩ := (HC.out k hlt).below hbw (by exact hb)
        obtain ⟨⟨x0, x1, x2, x3, x4⟩, hE⟩ : ∃ e, Hid (es.getD k zero = e) := ⟨_, rfl⟩
        rw [hE.out] at c0 c1 c2 c3 c4
        have HQ : Hid (Que Q Q (es.take k) (ringS k) wr ∧ Below Q w wr) := ⟨hq, hbw⟩
        have hS : ringS k ≤ 16384 := ringS_le (by omega)
        have hkl : (es.take k).length = k := by have := HM.out; simp; omega
        have HL : Hid ((es.take k).length = k) := hkl
        have HT : Hid (es.take k ++ [(x0, x1, x2, x3, x4)] = es.take (k + 1)) := by rw [← hE.out]; exact take_snoc es k (by have := HM.out; omega)
        have hki : (k : Int) < (m : Int) := by omega
        clear hq hbw hkl
        go_upto_region 9 with fail
        go_region_held3 (fun w' => w'.cell? ⟨b, off + k * 5, none⟩ = some (.int .u64 x0) ∧ w'.cell? ⟨b, off + k * 5 + 1, none⟩ = some (.int .u64 x1) ∧ w'.cell? ⟨b, off + k * 5 + 2, none⟩ = some (.int .u64 x2) ∧ w'.cell? ⟨b, off + k * 5 + 3, none⟩ = some (.int .i64 x3) ∧ w'.cell? ⟨b, off + k * 5 + 4, none⟩ = some (.int .i64 x4)) (go_keep)
          (first | (go_at_call 16; refine (zzpush_any Q Q (ringS k) (es.take k) x0 x1 x2 x3 x4 _ hS (by exact HQ.out.1)).mono ?_; rintro e w' ⟨rfl, hq', hb'⟩; obtain ⟨d0, d1, d2, d3, d4⟩ := (At5.below (w := wr.drew) (i := k) (e := (x0, x1, x2, x3, x4)) ⟨c0, c1, c2, c3, c4⟩ hb' hb)))
        have R : Hid (Que Q Q (es.take (k + 1)) (ringS (k + 1)) w' ∧ Below Q w w') := by
          rw [HT.out, HL.out] at hq'
          exact ⟨hq', HQ.out.2.drew.trans hb'⟩
        clear hq' hb' HQ d0 d1 d2 d3 d4 c0 c1 c2 c3 c4
        go_wp2
        go_roundg (m - (k + 1))
        case measure => have := hkg.out; omega
        case rel => exact ⟨k + 1, by omega, (by omega : k + 1 + (m - (k + 1)) = m), by go_num, R.out⟩
      · have ek : k = m := by omega
        have R : Hid (Que Q Q es (ringS m) wr ∧ Below Q w wr) := by
          rw [ek, List.take_of_length_le (by rw [HM.out]; exact Nat.le_refl _)] at hq
          exact ⟨hq, hbw⟩
        clear hq hbw ek
        go_wp2
        go_meet
        case rel => exact R.out
  case rest =>
    rename World => w2
    obtain ⟨hq, hbw⟩ := hcut
    have H2 : Hid (Que Q Q es (ringS m) w2 ∧ Below Q w w2) := ⟨hq, hbw⟩
    have hSb : ringS m ≤ 16384 := ringS_le hm1
    obtain ⟨S, hS⟩ : ∃ S, Hid (ringS m = S) := ⟨_, rfl⟩
    rw [hS.out] at H2 hSb
    clear hq hbw H1
    go_wp2
    go_loopg [6] 65536 (fun g s6 wr => ∃ V j : Nat, s6 = .int .i64 V ∧ Hid (V = 16 * 2 ^ j ∧ (j = 0 ∨ 16 * 2 ^ (j - 1) < m)) ∧ 16 ≤ V ∧ V ≤ 32768 ∧ Hid (g + V = 65552) ∧ wr = w2)
    case atStart => exact ⟨16, 0, rfl, ⟨rfl, .inl rfl⟩, by omega, by omega, rfl, rfl⟩
    case round =>
      obtain ⟨V, j, rfl, hV, hV1, hV2, hg, hw⟩ := hrel
      obtain rfl : w2 = wr := hw.symm
      clear hw
      by_cases hlt : V < m
      · go_wp2
        go_roundg (65552 - 2 * V)
        case measure => have := hg.out; omega
        case rel => exact ⟨2 * V, j + 1, by go_num, ⟨by rw [hV.out.1, Nat.pow_succ]; omega, .inr (by rw [Nat.add_sub_cancel, ← hV.out.1]; exact hlt)⟩, by omega, by omega, (by omega : 65552 - 2 * V + 2 * V = 65552), rfl⟩
      · have hVS : V = S := by rw [← hS.out, hV.out.1]; exact (ringS_is hm0 (by rw [← hV.out.1]; omega) hV.out.2).symm
        clear hV hV2 hg
        subst hVS
        have HST := state_any Q Q V es _ H2.out.1
        rw [HM.out] at HST
        have HST' : Hid (Calls Trym.prog 17 _ _ _) := HST
        clear HST
        go_wp2_with fail
        refine HST'.out.mono ?_
        clear HST'
        rintro e w' ⟨rfl, nq, rfl⟩
        have tt1 : ((V : Int) != (V : Int)) = false := by simp
        have tt2 : ((m : Int) != (m : Int)) = false := by simp
        go_wp2
        go_loopg [10] V (fun g s10 wr => ∃ k : Nat, k ≤ V ∧ Hid (k + g = V) ∧ s10 = .int .i64 k ∧ Below w2.heap.size w2 wr)
        case atStart => exact ⟨0, by omega, Nat.zero_add _, rfl, ⟨rfl, rfl, rfl, Nat.le_refl _, fun _ _ => rfl⟩⟩
        case round =>
          obtain ⟨k, hk, hkg, rfl, hbr⟩ := hrel
          by_cases hlt : k < V
          · have hki : (k : Int) < (V : Int) := by omega
            have HBR : Hid (Below w2.heap.size w2 wr) := hbr
            have HA : Hid (Calls Trym.prog 18 _ wr _) := at_any Q Q V k es wr (H2.out.1.below hbr) hlt (by omega)
            by_cases hkm : k < m
            · obtain ⟨⟨x0, x1, x2, x3, x4⟩, hE⟩ : ∃ e, Hid (es.getD k zero = e) := ⟨_, rfl⟩
              rw [hE.out] at HA
              have h5 := ((HC.out k hkm).below H2.out.2 (by exact hb)).below hbr (by exact Nat.lt_of_lt_of_le hb (by have := hQ.out; have := H2.out.2.size; omega))
              rw [hE.out] at h5
              clear hbr
              go_wp2_with fail
              refine HA.out.mono ?_
              rintro e w' ⟨rfl, hb'⟩
              obtain ⟨c0, c1, c2, c3, c4⟩ := h5.below hb' (by exact Nat.lt_of_lt_of_le hb (by have := hQ.out; have := H2.out.2.size; have := HBR.out.size; omega))
              have hkmi : (k : Int) < (m : Int) := by omega
              have hbw : b < w'.heap.size := by have := hQ.out; have := H2.out.2.size; have := HBR.out.size; have := hb'.size; omega
              have HB : Hid (Below w2.heap.size w2 w') := HBR.out.trans (hb'.mono HBR.out.size)
              clear hb' h5 HA HBR
              go_wp2
              go_quiet (fail)
              go_wp2
              go_roundg (V - (k + 1))
              case measure => have := hkg.out; omega
              case rel => exact ⟨k + 1, by omega, (by omega : k + 1 + (V - (k + 1)) = V), by go_num, below_box HB.out _ _⟩
            · have hE : es.getD k zero = (0, 0, 0, 0, 0) := by
                have := HM.out
                simp only [List.getD]
                rw [List.getElem?_eq_none (by omega)]; rfl
              rw [hE] at HA
              clear hbr hE
              have hkmi : ¬ (k : Int) < (m : Int) := by omega
              go_wp2_with fail
              refine HA.out.mono ?_
              rintro e w' ⟨rfl, hb'⟩
              have HB : Hid (Below w2.heap.size w2 w') := HBR.out.trans (hb'.mono HBR.out.size)
              clear hb' HA HBR
              go_wp2
              go_roundg (V - (k + 1))
              case measure => have := hkg.out; omega
              case rel => exact ⟨k + 1, by omega, (by omega : k + 1 + (V - (k + 1)) = V), by go_num, below_box HB.out _ 0⟩
          · go_wp2
            go_ret
            exact ⟨rfl, by rw [hQ.out]; exact H2.out.2.trans (hbr.mono (by have := hQ.out; have := H2.out.2.size; omega))⟩
end Go.Proofs.Qxb6609212aMods.Env
