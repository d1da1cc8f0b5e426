import Derived.Test.Qxb6605493aModsSkipWalk
import Derived.Test.Qxb6605493aModsSkipClone

import Derived.Deep.DeepCutAuto
import Derived.Deep.CutBlock
namespace Go.Proofs.Qxb6605493aMods.Skip
open Go.RowKit
set_option linter.unusedVariables false

/-- The empty tail or not. -/
theorem clone6_any (a : Option Addr) (len cap : Nat) (zs : List Int) (w : World) (hl : zs.length = len) (hlen : len ≤ 65536)
    (hc : ∀ j, j < len → ∃ b off, b < w.heap.size ∧ a = some ⟨b, off, none⟩ ∧ ∀ j, j < len → w.cell? ⟨b, off + j, none⟩ = some (.int .u8 (zs.getD j 0))) :
    Calls Trym.prog 6 #[.slice a len cap] w fun e w' => (∃ ao, e = .returned (.slice ao len len) ∧ (0 < len → ao = some ⟨w.heap.size, 0, none⟩ ∧ w.heap.size < w'.heap.size ∧ ∀ j, j < len → w'.cell? ⟨w.heap.size, j, none⟩ = some (.int .u8 (zs.getD j 0)))) ∧ Below w.heap.size w w' := by
  by_cases h0 : len = 0
  · subst h0
    refine (clone6_zero a cap w).mono ?_
    rintro e w' ⟨⟨ao, rfl⟩, hb⟩
    exact ⟨⟨ao, rfl, fun h => absurd h (by omega)⟩, hb⟩
  · obtain ⟨b, off, hbl, rfl, hc'⟩ := hc 0 (by omega)
    refine (clone6 b off len cap zs w hl hlen hbl hc').mono ?_
    rintro e w' ⟨rfl, ho, hb⟩
    refine ⟨⟨_, rfl, fun _ => ⟨rfl, ?_, fun j hj => ?_⟩⟩, hb⟩
    · exact (ho.lt _ rfl).2
    · rw [ho.cellAt j (by omega)]; simp [show j < zs.length by omega]

/-- What is owned: the bytes D, of length L, in block B with room for N. -/
def Own (B N L : Nat) (D : List Int) (w : World) : Prop := w.ownsRow B 5 1 (.slice (some ⟨B, 0, none⟩) L N) L (D.map (Value.int .u8))
theorem new_cells (W : World) (cs : List Value) (t : TypeId) : ∀ j u, cs[j]? = some u → (W.alloc (.cells cs.toArray t)).cell? ((⟨W.heap.size, 0, none⟩ : Addr).add j) = some u := by
  intro j u hu
  rw [Addr.add_lit, Nat.zero_add, cell_of_row _ W.heap.size j cs.toArray t (0, 0) (heap_alloc_new W _)]
  simpa using hu
theorem own_new {B N L : Nat} {D : List Int} {w : World} (h : Own B N L D w) (nq : Nat) (o : Obj) : ((w.drewN nq).alloc o).ownsRow B 5 1 (.slice (some ⟨B, 0, none⟩) L N) L (D.map (Value.int .u8)) :=
  World.ownsRow.alloc (w := w.drewN nq) h o
theorem own_step {B N L m nq : Nat} {D C : List Int} {w0 w w' : World} {o : Obj} (h : Own B N L D w) (hb : Below B w0 w) (h' : w'.ownsRow B 5 1 (.slice (some ⟨B, 0, none⟩) (L + m) N) (L + m) (D.map (Value.int .u8) ++ C.map (Value.int .u8)))
    (hg : ((w.drewN nq).alloc o).grownBy w' (some B)) : Own B N (L + m) (D ++ C) w' ∧ Below B w0 w' := by
  refine ⟨by unfold Own; rw [List.map_append]; exact h', ?_⟩
  have hlt : B < w.heap.size := (h.lt _ rfl).2
  have h1 : Below B w0 (w.drewN nq) := hb.trans ⟨rfl, rfl, rfl, Nat.le_refl _, fun _ _ => rfl⟩
  refine (h1.alloc (by exact Nat.le_of_lt hlt) o).grown hg ?_ ?_
  · simp; omega
  · intro k hk; cases hk; exact Nat.le_refl _
theorem hv_eq {x y hh h1 : Int} {last : Bool} (E1 : hh = y * 8 + x * 2) (E2 : h1 = hh + 1) : hdr x y last = if last = true then h1 else hh := by
  unfold hdr; subst E2; subst E1; cases last <;> simp
theorem len_le {D F : List Int} {ck : Bool} {fill : Int} {L N : Nat} (hD : D = F ++ (if ck = true then [197, 90, 0, fill] else [])) (hl : D.length = L) (h : F.length + 4 ≤ N) : L ≤ N := by
  subst hD
  cases ck <;> simp at hl <;> omega
theorem getD_left {D ts : List Int} {L j : Nat} (h : D.length = L) (hj : j < L) : (D.map (Value.int .u8))[j]? = some (.int .u8 ((D ++ ts).getD j 0)) := by
  subst h
  simp [List.getD, List.getElem?_append_left hj, hj]
theorem getD_right {D ts : List Int} {L j : Nat} (h : D.length = L) : ts.getD j 0 = (D ++ ts).getD (L + j) 0 := by
  subst h
  simp [List.getD, List.getElem?_append_right]
theorem getD_app {D ts : List Int} {L j : Nat} (h : D.length = L) (hj : j < L) : (D ++ ts).getD j 0 = D.getD j 0 := by
  subst h
  simp [List.getD, List.getElem?_append_left hj]
theorem chk_bytes {F : List Int} {ck : Bool} {fill : Int} (h : Bytes F) (hf : 0 ≤ fill ∧ fill ≤ 255) : Bytes (F ++ (if ck = true then [197, 90, 0, fill] else [])) := by
  refine h.app ?_
  intro x hx
  cases ck <;> simp at hx
  omega
theorem len_ge {D F : List Int} {ck : Bool} {fill : Int} {L : Nat} (hD : D = F ++ (if ck = true then [197, 90, 0, fill] else [])) (hl : D.length = L) : F.length ≤ L := by
  subst hD; subst hl; simp
theorem take_len {D : List Int} {L c : Nat} (h : D.length = L) (hc : c < L) : (D.take c).length = c := by simp; omega
theorem take_cells {D : List Int} {L c b : Nat} {w : World} (h : D.length = L) (hc : c < L) (hw : ∀ j, j < L → w.cell? ⟨b, j, none⟩ = some (.int .u8 (D.getD j 0))) :
    ∀ j, j < c → w.cell? ⟨b, j, none⟩ = some (.int .u8 ((D.take c).getD j 0)) := fun j hj => by
  rw [hw j (by omega)]; simp [List.getD, hj]
theorem below_drewN1 {B : Nat} {a w : World} (h : Below B a w) (n : Nat) : Below B a (w.drewN n) := ⟨h.os, h.tape, h.output, h.size, h.block⟩
theorem slice_len {p : Option Addr} {a b c : Nat} (h : a = b) : Value.slice p a c = .slice p b c := by rw [h]
theorem own_len {B N L : Nat} {D : List Int} {w : World} (h : Own B N L D w) : D.length = L := by have := h.1; simpa using this
theorem own_cast {B N L L' : Nat} {D D' : List Int} {w : World} (h : Own B N L D w) (hd : D = D') (hl : L = L') : Own B N L' D' w := by subst hd; subst hl; exact h
theorem u8_one (C : List Int) : ∀ u ∈ C.map (Value.int .u8), u.oneCell' = true := ints_oneCell _ _

set_option maxRecDepth 100000 in
set_option maxHeartbeats 2000000 in
theorem main_walk (b0 off0 b1 off1 n cap0 cap1 : Nat) (ks ss : List Int) (fill : Int) (ck : Bool) (a4 : Option Addr) (len4 cap4 : Nat) (ts : List Int) (cut : Int) (w : World)
    (hn : 0 < n) (hn' : n ≤ 4096) (hks : ks.length = n) (hss : ss.length = n) (hts : ts.length = len4) (h4 : len4 ≤ 65536) (hb0 : b0 < w.heap.size) (hb1 : b1 < w.heap.size)
    (hck : ∀ j, j < n → w.cell? ⟨b0, off0 + j, none⟩ = some (.int .u8 (ks.getD j 0))) (hcs : ∀ j, j < n → w.cell? ⟨b1, off1 + j, none⟩ = some (.int .u32 (ss.getD j 0)))
    (hct : ∀ j, j < len4 → ∃ b off, b < w.heap.size ∧ a4 = some ⟨b, off, none⟩ ∧ ∀ j, j < len4 → w.cell? ⟨b, off + j, none⟩ = some (.int .u8 (ts.getD j 0)))
    (hbk : ∀ j, 0 ≤ ks.getD j 0 ∧ ks.getD j 0 ≤ 255) (hbs : ∀ j, 0 ≤ ss.getD j 0 ∧ ss.getD j 0 ≤ 4294967295) (hbt : ∀ j, 0 ≤ ts.getD j 0 ∧ ts.getD j 0 ≤ 255)
    (hfill : 0 ≤ fill ∧ fill ≤ 255) (hcut : -9223372036854775808 ≤ cut ∧ cut ≤ 9223372036854775807) :
    Calls Trym.prog 3 #[.slice (some ⟨b0, off0, none⟩) n cap0, .slice (some ⟨b1, off1, none⟩) n cap1, .int .u8 fill, .bool ck, .slice a4 len4 cap4, .int .i64 cut] w fun e w' =>
      e = .returned (.bool true) ∧ Below w.heap.size w w' := by
  have HK : Hid (ks.length = n ∧ ss.length = n ∧ ts.length = len4) := ⟨hks, hss, hts⟩
  clear hks hss hts
  have HB := bytes5 (some ⟨b0, off0, none⟩) (some ⟨b1, off1, none⟩) a4 n cap0 n cap1 len4 cap4 fill ck cut w (by unfold maxLen; omega) (by unfold maxLen; omega) (by unfold maxLen; omega)
  have H5 : Hid (Calls Trym.prog 5 _ w _) := HB
  clear HB
  have HC : Hid (∀ j, j < len4 → ∃ b off, b < w.heap.size ∧ a4 = some ⟨b, off, none⟩ ∧ ∀ j, j < len4 → w.cell? ⟨b, off + j, none⟩ = some (.int .u8 (ts.getD j 0))) := hct
  have HBT : Hid (∀ j, 0 ≤ ts.getD j 0 ∧ ts.getD j 0 ≤ 255) := hbt
  have HCK : Hid (∀ j, j < n → w.cell? ⟨b0, off0 + j, none⟩ = some (.int .u8 (ks.getD j 0))) := hck
  have HCS : Hid (∀ j, j < n → w.cell? ⟨b1, off1 + j, none⟩ = some (.int .u32 (ss.getD j 0))) := hcs
  have HBK : Hid (∀ j, 0 ≤ ks.getD j 0 ∧ ks.getD j 0 ≤ 255) := hbk
  have HBS : Hid (∀ j, 0 ≤ ss.getD j 0 ∧ ss.getD j 0 ≤ 4294967295) := hbs
  clear hct hbt hck hcs hbk hbs
  have q0 : decide ((4096 : Int) < (n : Int)) = false := decide_eq_false (by omega)
  have q1 : decide ((65536 : Int) < (len4 : Int)) = false := decide_eq_false (by omega)
  have q2 : ((n : Int) == 0) = false := by simp; omega
  go_enter Trym.func3, Trym.ntmps3
  go_wp2_with fail
  refine H5.out.mono ?_
  clear H5
  rintro e w' ⟨⟨ok, rfl⟩, hw⟩
  obtain rfl : w = w' := hw.symm
  cases ok with
  | false =>
    go_wp2
    go_ret
    exact ⟨rfl, Below.refl _ _⟩
  | true =>
  go_upto_block 0 with fail
  go_cut [13] (fun pl wc => pl = .int .i64 (pays ks ss n) ∧ wc = w ∧ Good ks ss n)
  case first =>
    go_wp2
    go_loopg [13, 14] n (fun g pl i wr => ∃ k : Nat, k ≤ n ∧ Hid (k + g = n) ∧ i = .int .i64 k ∧ pl = .int .i64 (pays ks ss k) ∧ wr = w ∧ Good ks ss k)
    case atStart => exact ⟨0, by omega, Nat.zero_add _, rfl, rfl, rfl, fun i hi => by omega⟩
    case round =>
      obtain ⟨k, hk, hkg, rfl, rfl, rfl, hg⟩ := hrel
      by_cases hlt : k < n
      · have hbd := pays_bd ks ss k hg
        have hx := HCK.out k hlt
        have hy := HCS.out k hlt
        have hxb := HBK.out k
        have hyb := HBS.out k
        have hpn : Hid (pays ks ss (k + 1) = pays ks ss k + if ks.getD k 0 = 1 then 1 else ss.getD k 0) := rfl
        have hgn : Hid (0 ≤ ks.getD k 0 ∧ ks.getD k 0 ≤ 2 → 0 ≤ ss.getD k 0 ∧ ss.getD k 0 < 2097152 → Good ks ss (k + 1)) := fun h1 h2 i hi => by
          by_cases hik : i = k
          · subst hik; exact ⟨h1.1, h1.2, h2⟩
          · exact hg i (by omega)
        obtain ⟨x, X⟩ : ∃ x, Hid (ks.getD k 0 = x) := ⟨_, rfl⟩
        obtain ⟨y, Y⟩ : ∃ y, Hid (ss.getD k 0 = y) := ⟨_, rfl⟩
        rw [X.out] at hx hxb hpn hgn
        rw [Y.out] at hy hyb hpn hgn
        obtain ⟨P, hP⟩ : ∃ P, Hid (pays ks ss k = P) := ⟨_, rfl⟩
        rw [hP.out] at hbd hpn
        clear hg
        rw [hP.out]
        go_wp2
        · go_ret
          exact ⟨rfl, Below.refl _ _⟩
        · have h1 : (x == 1) = true := by assumption
          have h2 : x ≤ 2 ∧ y < 2097152 := by assumption
          go_roundg (n - (k + 1))
          case measure => have := hkg.out; omega
          case rel => exact ⟨k + 1, by omega, (by omega : k + 1 + (n - (k + 1)) = n), by go_num, by rw [hpn.out, if_pos (by simpa using h1)], rfl, hgn.out ⟨hxb.1, h2.1⟩ ⟨hyb.1, h2.2⟩⟩
        · have h1 : (x == 1) = false := by assumption
          have h2 : x ≤ 2 ∧ y < 2097152 := by assumption
          go_roundg (n - (k + 1))
          case measure => have := hkg.out; omega
          case rel => exact ⟨k + 1, by omega, (by omega : k + 1 + (n - (k + 1)) = n), by go_num, by rw [hpn.out, if_neg (by simpa using h1)], rfl, hgn.out ⟨hxb.1, h2.1⟩ ⟨hyb.1, h2.2⟩⟩
        · go_ret
          exact ⟨rfl, Below.refl _ _⟩
      · obtain rfl : k = n := by omega
        have HG : Hid (Good ks ss k) := hg
        clear hg
        go_wp2
        go_meet
        case rel => exact ⟨rfl, rfl, HG.out⟩
  case rest =>
    obtain ⟨rfl, hwc, hg⟩ := hcut
    obtain rfl : w = wc := hwc.symm
    have HG : Hid (Good ks ss n) := hg
    have hbd := pays_bd ks ss n hg
    clear hg
    obtain ⟨P, hP⟩ : ∃ P, Hid (pays ks ss n = P) := ⟨_, rfl⟩
    rw [hP.out] at hbd
    rw [hP.out]
    by_cases hpl : 65536 < P
    · go_wp2
      go_ret
      exact ⟨rfl, Below.refl _ _⟩
    go_wp2_with fail
    refine (clone6 b0 off0 n cap0 ks w HK.out.1 (by omega) hb0 HCK.out).mono ?_
    rintro e w1 ⟨rfl, ho1, hw1⟩
    have hz1 : w.heap.size < w1.heap.size := (ho1.lt _ rfl).2
    have C1 : Hid (∀ j, j < n → w1.cell? ⟨w.heap.size, j, none⟩ = some (.int .u8 (ks.getD j 0))) := fun j hj => by
      rw [ho1.cellAt j (by omega)]; simp [show j < ks.length by have := HK.out.1; omega]
    have W1 : Hid (Below w.heap.size w w1) := hw1
    clear ho1 hw1
    go_wp2_with fail
    refine (clone7 b1 off1 n cap1 ss w1 HK.out.2.1 (by omega) (by omega) (fun j hj => (W1.out.cell hb1).trans (HCS.out j hj))).mono ?_
    rintro e w2 ⟨rfl, ho2, hw2⟩
    have hz2 : w1.heap.size < w2.heap.size := (ho2.lt _ rfl).2
    have C2 : Hid (∀ j, j < n → w2.cell? ⟨w1.heap.size, j, none⟩ = some (.int .u32 (ss.getD j 0))) := fun j hj => by
      rw [ho2.cellAt j (by omega)]; simp [show j < ss.length by have := HK.out.2.1; omega]
    have W2 : Hid (Below w1.heap.size w1 w2) := hw2
    clear ho2 hw2
    go_wp2_with fail
    refine (clone6_any a4 len4 cap4 ts w2 HK.out.2.2 (by omega) (fun j hj => ?_)).mono ?_
    · obtain ⟨b, off, h1, h2, h3⟩ := HC.out j hj
      exact ⟨b, off, by omega, h2, fun j hj => (W2.out.cell (by exact (by omega : b < w1.heap.size))).trans ((W1.out.cell (by exact h1)).trans (h3 j hj))⟩
    rintro e w3 ⟨⟨ao, rfl, hT⟩, hw3⟩
    have hz3 : w2.heap.size ≤ w3.heap.size := hw3.size
    have C1' : Hid (∀ j, j < n → w3.cell? ⟨w.heap.size, j, none⟩ = some (.int .u8 (ks.getD j 0))) := fun j hj => (hw3.cell (by exact (by omega : w.heap.size < w2.heap.size))).trans ((W2.out.cell (by exact hz1)).trans (C1.out j hj))
    have C2' : Hid (∀ j, j < n → w3.cell? ⟨w1.heap.size, j, none⟩ = some (.int .u32 (ss.getD j 0))) := fun j hj => (hw3.cell (by exact hz2)).trans (C2.out j hj)
    have W3 : Hid (Below w.heap.size w w3) := (W1.out.trans (W2.out.mono (by omega))).trans (hw3.mono (by omega))
    have T : Hid (0 < len4 → ao = some ⟨w2.heap.size, 0, none⟩ ∧ w2.heap.size < w3.heap.size ∧ ∀ j, j < len4 → w3.cell? ⟨w2.heap.size, j, none⟩ = some (.int .u8 (ts.getD j 0))) := hT
    clear hT hw3 W1 W2 C1 C2 HCK HCS HC
    obtain ⟨g0, hg0⟩ : ∃ g, w.heap.size = g := ⟨_, rfl⟩
    obtain ⟨g1, hg1⟩ : ∃ g, w1.heap.size = g := ⟨_, rfl⟩
    obtain ⟨g2, hg2⟩ : ∃ g, w2.heap.size = g := ⟨_, rfl⟩
    rw [hg0] at C1' hz1
    rw [hg1] at C2' hz1 hz2
    rw [hg2] at T hz2 hz3
    rw [hg0, hg1]
    clear hg1 hg2
    obtain ⟨i5, hi, hzz, hz1', hz2'⟩ := info_parts Trym.info5
    go_wp2_with (first | (at_make; refine wpList_make_own _ rfl _ _ 22 rfl w3.heap.size 5 i5 (.int .u8 0) 1 Trym.underlying22 hi hzz hz1' _ _ _ (P.toNat + 3 * n + 4) rfl rfl (by omega) ?_ ?_ ?_ ?_))
    · rw [hz2']; omega
    · unfold maxLen; omega
    · exact Nat.le_refl _
    intro w4 ho4 hgr
    have W4 : Hid (Below w3.heap.size w3 w4) := (Below.refl _ _).grown hgr (Nat.le_refl _) (by intro k h; cases h)
    clear hgr
    have O4 : Hid (w4.ownsRow w3.heap.size 5 1 (.slice (some ⟨w3.heap.size, 0, none⟩) 0 (P.toNat + 3 * n + 4)) 0 []) := ho4
    clear ho4
    obtain ⟨N, hN⟩ : ∃ N, P.toNat + 3 * n + 4 = N := ⟨_, rfl⟩
    obtain ⟨B, hB⟩ : ∃ B, w3.heap.size = B := ⟨_, rfl⟩
    rw [hN, hB] at O4
    rw [hB] at W4 T hz3
    rw [hN, hB]
    have HN : Hid (P.toNat + 3 * n + 4 = N) := hN
    have hNb : N ≤ 80000 := by omega
    have HW3 : Hid (w3.heap.size = B) := hB
    clear hN hB
    go_upto_block 2 with fail
    go_cut [16] (fun fr wc => fr = .slice (some ⟨B, 0, none⟩) (frm fill ks ss n n).length N ∧ Own B N (frm fill ks ss n n).length (frm fill ks ss n n) wc ∧ Below B w3 wc)
    case first =>
      go_wp2
      go_loopg [16, 17] n (fun g fr i wr => ∃ k : Nat, k ≤ n ∧ Hid (k + g = n) ∧ i = .int .i64 k ∧ fr = .slice (some ⟨B, 0, none⟩) (frm fill ks ss n k).length N ∧ Own B N (frm fill ks ss n k).length (frm fill ks ss n k) wr ∧ Below B w3 wr)
      case atStart => exact ⟨0, by omega, Nat.zero_add _, rfl, rfl, O4.out, W4.out⟩
      case round =>
        obtain ⟨k, hk, hkg, rfl, rfl, ho, hb⟩ := hrel
        clear O4 W4
        by_cases hlt : k < n
        · have hx : wr.cell? ⟨g0, k, none⟩ = some (.int .u8 (ks.getD k 0)) := (hb.cell (by exact (by omega : g0 < B))).trans (C1'.out k hlt)
          have hy : wr.cell? ⟨g1, k, none⟩ = some (.int .u32 (ss.getD k 0)) := (hb.cell (by exact (by omega : g1 < B))).trans (C2'.out k hlt)
          have hgk := HG.out k hlt
          have HF : Hid (frm fill ks ss n (k + 1) = frm fill ks ss n k ++ blk fill (ks.getD k 0) (ss.getD k 0) (decide (k + 1 = n))) := rfl
          have HFL : Hid ((frm fill ks ss n (k + 1)).length + 4 ≤ N) := by
            have e1 := frm_length fill ks ss n n HG.out
            have e2 := frm_mono fill ks ss n (m := k + 1) (m' := n) (by omega)
            have e3 := HN.out
            have e4 := hP.out
            show _ ≤ _
            omega
          obtain ⟨x, X⟩ : ∃ x, Hid (ks.getD k 0 = x) := ⟨_, rfl⟩
          obtain ⟨y, Y⟩ : ∃ y, Hid (ss.getD k 0 = y) := ⟨_, rfl⟩
          rw [X.out] at hx hgk HF
          rw [Y.out] at hy hgk HF
          obtain ⟨A, hA⟩ : ∃ A, Hid (frm fill ks ss n k = A) := ⟨_, rfl⟩
          rw [hA.out] at ho HF
          rw [hA.out]
          have O : Hid (Own B N A.length A wr ∧ Below B w3 wr) := ⟨ho, hb⟩
          clear ho hb
          obtain ⟨hh, e1, E1⟩ : ∃ z, bits .or .u32 (y * 8) (x * 2) = z ∧ Hid (z = y * 8 + x * 2) := ⟨_, or_lo 3 (by omega) (by omega) (by omega) (by omega) (by omega) (by omega), rfl⟩
          obtain ⟨h1, e2, E2⟩ : ∃ z, bits .or .u32 hh 1 = z ∧ Hid (z = hh + 1) := ⟨_, or_lo 1 (by omega) (by omega) (by omega) (by have := E1.out; omega) (by have := E1.out; omega) (by have := E1.out; omega), rfl⟩
          have hhb : 0 ≤ hh ∧ hh < 16777216 := by have := E1.out; omega
          have h1b : 0 ≤ h1 ∧ h1 < 16777216 := by have := E1.out; have := E2.out; omega
          obtain ⟨last, hlast⟩ : ∃ t : Bool, decide (k + 1 = n) = t := ⟨_, rfl⟩
          have t1 : ((k : Int) == (n : Int) - 1) = last := by rw [← hlast, Bool.eq_iff_iff]; simp; omega
          rw [hlast] at HF
          clear hlast
          obtain ⟨hv, hvE⟩ : ∃ hv, Hid (hv = hdr x y last) := ⟨_, rfl⟩
          have hvb : 0 ≤ hv ∧ hv < 16777216 := by rw [hvE.out]; exact hdr_bounds last (by omega) (by omega) (by omega) (by omega)
          have LE : Hid (hv = if last = true then h1 else hh) := by
            rw [hvE.out]; exact hv_eq E1.out E2.out
          have LEN : Hid (A.length + 3 + (if x = 1 then 1 else y.toNat) + 4 ≤ N) := by
            have := HFL.out
            rw [HF.out, List.length_append, blk_length] at this
            show _ ≤ _
            omega
          clear HFL
          go_upto_region 26 with fail
          go_cut [18] (fun s18 wc => s18 = .int .u32 hh ∧ ∃ nq, wc = wr.drewN nq)
          case first =>
            go_quiet (fail)
            go_wp2
            go_meet
            case rel => exact ⟨rfl, _, rfl⟩
          case rest =>
          obtain ⟨rfl, nq, rfl⟩ := hcut
          clear e1
          go_upto_if 131 with fail
          go_cut [18] (fun s18 wc => s18 = .int .u32 hv ∧ wc = wr.drewN nq)
          case first =>
            cases last with
            | false =>
              go_wp2
              go_meet
              case rel => exact ⟨by rw [LE.out]; rfl, rfl⟩
            | true =>
              go_wp2
              go_meet
              case rel => exact ⟨by rw [LE.out]; rfl, rfl⟩
          case rest =>
          obtain ⟨rfl, rfl⟩ := hcut
          clear e2 t1 hhb h1b
          have hl3 : A.length + 3 ≤ N := by have := LEN.out; omega
          go_wp2_with (first | (at_builtin; refine wpList_append_fits _ rfl (.tmp 134) (.tmp 143) 22 rfl B 5 i5 1 Trym.underlying22 hi hz1' B A.length N (A.map (Value.int .u8)) rfl (own_new O.out.1 nq _) ⟨wr.heap.size, 0, none⟩ 3 3 ([hv % 256, hv / 256 % 256, hv / 65536].map (Value.int .u8)) rfl rfl (new_cells (wr.drewN nq) _ _) (u8_one _) hl3 ?_))
          intro w5 ho5 hg5
          have R5 := own_step (C := [hv % 256, hv / 256 % 256, hv / 65536]) O.out.1 O.out.2 ho5 hg5
          clear ho5 hg5 O
          have hx5 : w5.cell? ⟨g0, k, none⟩ = some (.int .u8 x) := by rw [← X.out]; exact (R5.2.cell (by exact (by omega : g0 < B))).trans (C1'.out k hlt)
          obtain ⟨A1, hA1⟩ : ∃ A1, Hid (A ++ [hv % 256, hv / 256 % 256, hv / 65536] = A1) := ⟨_, rfl⟩
          rw [hA1.out] at R5
          obtain ⟨L1, hL1⟩ : ∃ L1, A.length + 3 = L1 := ⟨_, rfl⟩
          rw [hL1] at R5 LEN
          rw [hL1]
          have O5 : Hid (Own B N L1 A1 w5 ∧ Below B w3 w5) := R5
          clear R5 hL1 hx hy
          by_cases hx1 : x = 1
          · have t2 : (x == 1) = true := by simp [hx1]
            have hl4 : L1 + 1 ≤ N := by have := LEN.out; rw [if_pos hx1] at this; omega
            have E : Hid (frm fill ks ss n (k + 1) = A1 ++ [fill]) := by
              rw [HF.out, blk_one A hvE.out hvb hx1, hA1.out]; exact rfl
            clear hx1 LEN HF hA1 LE
            go_wp2_with (first | (at_builtin; refine wpList_append_fits _ rfl (.tmp 150) (.tmp 152) 22 rfl B 5 i5 1 Trym.underlying22 hi hz1' B L1 N (A1.map (Value.int .u8)) rfl (own_new O5.out.1 0 _) ⟨w5.heap.size, 0, none⟩ 1 1 ([fill].map (Value.int .u8)) rfl rfl (new_cells (w5.drewN 0) _ _) (u8_one _) hl4 ?_))
            intro w6 ho6 hg6
            have R6 := own_step (nq := 0) (C := [fill]) O5.out.1 O5.out.2 ho6 hg6
            have R7 : Hid (Own B N (frm fill ks ss n (k + 1)).length (frm fill ks ss n (k + 1)) w6 ∧ Below B w3 w6) := ⟨own_cast R6.1 E.out.symm (by rw [E.out, own_len R6.1]), R6.2⟩
            have R8 : Hid (L1 + 1 = (frm fill ks ss n (k + 1)).length) := by rw [E.out]; exact (own_len R6.1).symm
            clear R6 ho6 hg6 O5 E
            go_wp2
            go_roundg (n - (k + 1))
            case measure => have := hkg.out; omega
            case rel => exact ⟨k + 1, by omega, (by omega : k + 1 + (n - (k + 1)) = n), by go_num, slice_len R8.out, R7.out.1, R7.out.2⟩
          · have t2 : (x == 1) = false := by simp [hx1]
            have hl4 : L1 + y.toNat + 4 ≤ N := by have := LEN.out; rw [if_neg hx1] at this; omega
            have E : Hid (frm fill ks ss n (k + 1) = A1 ++ payTo fill y.toNat) := by
              rw [HF.out, blk_more A hvE.out hvb hx1, hA1.out]; exact rfl
            clear hx1 LEN HF hA1 LE
            go_wp2
            go_loopg [16, 19] y.toNat (fun g fr jj wr => ∃ j : Nat, j ≤ y.toNat ∧ Hid (j + g = y.toNat) ∧ jj = .int .u32 j ∧ fr = .slice (some ⟨B, 0, none⟩) (L1 + j) N ∧ Own B N (L1 + j) (A1 ++ payTo fill j) wr ∧ Below B w3 wr)
            case atStart => exact ⟨0, by omega, Nat.zero_add _, rfl, rfl, by simpa [payTo] using O5.out.1, O5.out.2⟩
            case round =>
              obtain ⟨j, hj, hjg, rfl, rfl, ho, hb⟩ := hrel
              clear O5 hx5
              have hy5 : wr.cell? ⟨g1, k, none⟩ = some (.int .u32 y) := by rw [← Y.out]; exact (hb.cell (by exact (by omega : g1 < B))).trans (C2'.out k hlt)
              have OO : Hid (Own B N (L1 + j) (A1 ++ payTo fill j) wr ∧ Below B w3 wr) := ⟨ho, hb⟩
              clear ho hb
              by_cases hjy : (j : Int) < y
              · have hl5 : L1 + j + 1 ≤ N := by omega
                have hj6 : (j : Int) ≤ 80000 := by omega
                obtain ⟨A2, hA2⟩ : ∃ A2, Hid (A1 ++ payTo fill j = A2) := ⟨_, rfl⟩
                rw [hA2.out] at OO
                go_wp2_with (first | (at_builtin; refine wpList_append_fits _ rfl (.tmp 162) (.tmp 167) 22 rfl B 5 i5 1 Trym.underlying22 hi hz1' B (L1 + j) N (A2.map (Value.int .u8)) rfl (own_new OO.out.1 0 _) ⟨wr.heap.size, 0, none⟩ 1 1 ([(fill + (j : Int)) % 256].map (Value.int .u8)) rfl rfl (new_cells (wr.drewN 0) _ _) (u8_one _) hl5 ?_))
                intro w6 ho6 hg6
                have R6 := own_step (nq := 0) (C := [(fill + (j : Int)) % 256]) OO.out.1 OO.out.2 ho6 hg6
                have R7 : Hid (Own B N (L1 + (j + 1)) (A1 ++ payTo fill (j + 1)) w6 ∧ Below B w3 w6) := ⟨own_cast R6.1 (by rw [payTo_succ, ← hA2.out, List.append_assoc]) (by omega), R6.2⟩
                clear R6 ho6 hg6 OO
                go_wp2
                go_roundg (y.toNat - (j + 1))
                case measure => have := hjg.out; omega
                case rel => exact ⟨j + 1, by omega, (by omega : j + 1 + (y.toNat - (j + 1)) = y.toNat), by go_num, slice_len (by omega), R7.out.1, R7.out.2⟩
              · have ej : j = y.toNat := by omega
                have R7 : Hid (Own B N (frm fill ks ss n (k + 1)).length (frm fill ks ss n (k + 1)) wr ∧ Below B w3 wr) := by
                  have h := OO.out.1
                  rw [ej] at h
                  exact ⟨own_cast h E.out.symm (by rw [E.out, own_len h]), OO.out.2⟩
                have R8 : Hid (L1 + j = (frm fill ks ss n (k + 1)).length) := by
                  rw [E.out, ej, List.length_append, payTo_length]
                  have h := own_len OO.out.1
                  rw [List.length_append, payTo_length] at h
                  show _ = _
                  omega
                clear ej OO E
                go_wp2
                go_roundg (n - (k + 1))
                case measure => have := hkg.out; omega
                case rel => exact ⟨k + 1, by omega, (by omega : k + 1 + (n - (k + 1)) = n), by go_num, slice_len R8.out, R7.out.1, R7.out.2⟩
        · have ek : k = n := by omega
          have R7 : Hid (Own B N (frm fill ks ss n n).length (frm fill ks ss n n) wr ∧ Below B w3 wr) := by rw [ek] at ho; exact ⟨ho, hb⟩
          have R8 : Hid ((frm fill ks ss n k).length = (frm fill ks ss n n).length) := by rw [ek]; exact rfl
          clear ho hb ek
          go_wp2
          go_meet
          case rel => exact ⟨slice_len R8.out, R7.out.1, R7.out.2⟩
    case rest =>
      obtain ⟨rfl, ho, hb⟩ := hcut
      clear O4 W4
      have HFL : Hid ((frm fill ks ss n n).length + 4 = N) := by
        have e1 := frm_length fill ks ss n n HG.out
        have e3 := HN.out
        have e4 := hP.out
        show _ = _
        omega
      obtain ⟨F, hF⟩ : ∃ F, Hid (frm fill ks ss n n = F) := ⟨_, rfl⟩
      rw [hF.out] at ho HFL
      rw [hF.out]
      have O : Hid (Own B N F.length F wc ∧ Below B w3 wc) := ⟨ho, hb⟩
      clear ho hb
      have hF4 : F.length + 4 ≤ N := Nat.le_of_eq HFL.out
      go_upto_if 169 with fail
      go_cut [16] (fun fr wd => ∃ (L : Nat) (D : List Int), fr = .slice (some ⟨B, 0, none⟩) L N ∧ Hid (D = F ++ (if ck = true then [197, 90, 0, fill] else [])) ∧ Own B N L D wd ∧ Below B w3 wd)
      case first =>
        cases ck with
        | false =>
          go_wp2
          go_meet
          case rel => exact ⟨F.length, F, rfl, (by simp : F = F ++ _), O.out.1, O.out.2⟩
        | true =>
          go_wp2_with (first | (at_builtin; refine wpList_append_fits _ rfl (.tmp 170) (.tmp 172) 22 rfl B 5 i5 1 Trym.underlying22 hi hz1' B F.length N (F.map (Value.int .u8)) rfl (own_new O.out.1 0 _) ⟨wc.heap.size, 0, none⟩ 4 4 ([197, 90, 0, fill].map (Value.int .u8)) rfl rfl (new_cells (wc.drewN 0) _ _) (u8_one _) hF4 ?_))
          intro w6 ho6 hg6
          have R6 := own_step (nq := 0) (C := [197, 90, 0, fill]) O.out.1 O.out.2 ho6 hg6
          clear ho6 hg6 O
          have R7 : Hid _ := R6
          clear R6
          go_wp2
          go_meet
          case rel => exact ⟨F.length + 4, F ++ [197, 90, 0, fill], rfl, rfl, R7.out.1, R7.out.2⟩
      case rest =>
      rename World => w8
      obtain ⟨L, D, rfl, hD, ho, hb⟩ := hcut
      have hLD := own_len ho
      have HL : Hid (D.length = L) := hLD
      have hLN : L ≤ N := len_le hD.out hLD hF4
      clear hLD O
      have hBw : B < w8.heap.size := (ho.lt _ rfl).2
      have CF : Hid (∀ j, j < L → w8.cell? ⟨B, j, none⟩ = some (.int .u8 ((D ++ ts).getD j 0))) := fun j hj => by
        rw [ho.cellAt j (by omega)]; exact getD_left HL.out hj
      have CT : Hid (∀ j, j < len4 → ao = some ⟨g2, 0, none⟩ ∧ g2 < B ∧ w8.cell? ⟨g2, j, none⟩ = some (.int .u8 ((D ++ ts).getD (L + j) 0))) := fun j hj => by
        obtain ⟨t1, t2, t3⟩ := T.out (by omega)
        exact ⟨t1, t2, by rw [hb.cell (by exact t2), t3 j hj, getD_right HL.out]⟩
      have WC : Hid (Below w.heap.size w w8) := W3.out.trans (hb.mono (by omega))
      have OF : Hid (Own B N L D w8) := ho
      have HM : Hid ((D ++ ts).length = L + len4) := by rw [List.length_append, HL.out, HK.out.2.2]; exact rfl
      clear ho hb T W3 C1' C2' HFL
      go_wp2_with (first | (at_make; refine wpList_make_full _ rfl _ _ 22 rfl w8.heap.size 5 i5 (.int .u8 0) 1 Trym.underlying22 hi hzz hz1' _ _ _ _ (L + len4) rfl rfl (by omega) (by omega) ?_ ?_ ?_ ?_))
      · rw [hz2']; omega
      · unfold maxLen; omega
      · exact Nat.le_refl _
      intro w7 ho7 hg7
      have W7 : Hid (Below w8.heap.size w8 w7) := (Below.refl _ _).grown hg7 (Nat.le_refl _) (by intro k h; cases h)
      have O7 : Hid (w7.ownsRow w8.heap.size 5 1 (.slice (some ⟨w8.heap.size, 0, none⟩) (L + len4) (L + len4)) (L + len4) (upto .u8 (D ++ ts) (L + len4) 0)) := by
        rw [upto_zero]; show World.ownsRow _ _ _ _ _ _ _; simpa [toList_madeCells_one, Value.cells] using ho7
      clear ho7 hg7
      obtain ⟨Z, hZ⟩ : ∃ Z, Hid (D ++ ts = Z) := ⟨_, rfl⟩
      rw [hZ.out] at CF CT HM O7
      obtain ⟨G, hG⟩ : ∃ G, w8.heap.size = G := ⟨_, rfl⟩
      rw [hG] at O7 W7 hBw
      rw [hG]
      obtain ⟨M, hM⟩ : ∃ M, L + len4 = M := ⟨_, rfl⟩
      rw [hM] at O7 HM
      rw [hM]
      have HG7 : Hid (w8.heap.size = G) := hG
      have HMM : Hid (L + len4 = M) := hM
      have hMb : M ≤ 200000 := by omega
      have hLM : L ≤ M := by omega
      clear hG hM
      go_upto_block 6 with fail
      go_cut [21] (fun i wd => wd.ownsRow G 5 1 (.slice (some ⟨G, 0, none⟩) M M) M (upto .u8 Z M L) ∧ Below G w8 wd)
      case first =>
        go_wp2
        go_loopg [21] L (fun g i wr => ∃ k : Nat, k ≤ L ∧ Hid (k + g = L) ∧ i = .int .i64 k ∧ wr.ownsRow G 5 1 (.slice (some ⟨G, 0, none⟩) M M) M (upto .u8 Z M k) ∧ Below G w8 wr)
        case atStart => exact ⟨0, Nat.zero_le _, Nat.zero_add _, rfl, O7.out, W7.out⟩
        case round =>
          obtain ⟨k, hk, hkg, rfl, ho, hb⟩ := hrel
          clear O7 W7
          by_cases hlt : k < L
          · have hkM : k < M := by omega
            have hcx : wr.cell? ⟨B, k, none⟩ = some (.int .u8 (Z.getD k 0)) := (hb.cell (by exact hBw)).trans (CF.out k hlt)
            have hf : wr.frozen? ⟨G, k, none⟩ = false := ho.frozenAt k
            have hold : wr.cell? ⟨G, k, none⟩ = some (.int .u8 0) := (ho.cellAt k (by omega)).trans (upto_at _ _ _ _ HM.out hkM)
            have R := rel_copy HM.out hkM ho hb
            obtain ⟨x, X⟩ : ∃ x, Hid (Z.getD k 0 = x) := ⟨_, rfl⟩
            rw [X.out] at hcx R
            have HR : Hid _ := R
            clear R ho hb
            go_wp2
            go_roundg (L - (k + 1))
            case measure => have := hkg.out; omega
            case rel => exact ⟨k + 1, by omega, (by omega : k + 1 + (L - (k + 1)) = L), by go_num, HR.out.1, HR.out.2⟩
          · have ek : k = L := by omega
            rw [ek] at ho
            have HO : Hid _ := And.intro ho hb
            clear ho hb ek
            go_wp2
            go_meet
            case rel => exact ⟨HO.out.1, HO.out.2⟩
      case rest =>
      rename World => wd
      obtain ⟨ho7, hw7⟩ := hcut
      clear O7 W7
      have O7 : Hid (wd.ownsRow G 5 1 (.slice (some ⟨G, 0, none⟩) M M) M (upto .u8 Z M L)) := ho7
      have W7 : Hid (Below G w8 wd) := hw7
      clear ho7 hw7
      go_upto_block 8 with fail
      go_cut [22] (fun i we => we.ownsRow G 5 1 (.slice (some ⟨G, 0, none⟩) M M) M (Z.map (Value.int .u8)) ∧ Below G w8 we)
      case first =>
        go_wp2
        go_loopg [22] len4 (fun g i wr => ∃ k : Nat, k ≤ len4 ∧ Hid (k + g = len4) ∧ i = .int .i64 k ∧ wr.ownsRow G 5 1 (.slice (some ⟨G, 0, none⟩) M M) M (upto .u8 Z M (L + k)) ∧ Below G w8 wr)
        case atStart => exact ⟨0, Nat.zero_le _, Nat.zero_add _, rfl, O7.out, W7.out⟩
        case round =>
          obtain ⟨k, hk, hkg, rfl, ho, hb⟩ := hrel
          clear O7 W7
          by_cases hlt : k < len4
          · have hkM : L + k < M := by have := HMM.out; omega
            obtain ⟨rfl, hgB, hct⟩ := CT.out k hlt
            have hcx : wr.cell? ⟨g2, k, none⟩ = some (.int .u8 (Z.getD (L + k) 0)) := (hb.cell (by exact (by omega : g2 < G))).trans hct
            have hf : wr.frozen? ⟨G, L + k, none⟩ = false := ho.frozenAt (L + k)
            have hold : wr.cell? ⟨G, L + k, none⟩ = some (.int .u8 0) := (ho.cellAt (L + k) (by omega)).trans (upto_at _ _ _ _ HM.out hkM)
            have R := rel_copy HM.out hkM ho hb
            obtain ⟨x, X⟩ : ∃ x, Hid (Z.getD (L + k) 0 = x) := ⟨_, rfl⟩
            rw [X.out] at hcx R
            have HR : Hid _ := R
            clear R ho hb hct
            go_wp2
            go_roundg (len4 - (k + 1))
            case measure => have := hkg.out; omega
            case rel => exact ⟨k + 1, by omega, (by omega : k + 1 + (len4 - (k + 1)) = len4), by go_num, HR.out.1, HR.out.2⟩
          · have ek : L + k = M := by have := HMM.out; omega
            rw [ek, upto_full _ _ _ HM.out] at ho
            have HO : Hid _ := And.intro ho hb
            clear ho hb ek
            go_wp2
            go_meet
            case rel => exact ⟨HO.out.1, HO.out.2⟩
      case rest =>
      rename World => we
      obtain ⟨ho7, hw7⟩ := hcut
      clear O7 W7
      have CZ : Hid (∀ j, j < M → we.cell? ⟨G, j, none⟩ = some (.int .u8 (Z.getD j 0))) := fun j hj => by
        rw [ho7.cellAt j (by omega)]; simp [show j < Z.length by have := HM.out; omega]
      have WE : Hid (Below w.heap.size w we) := WC.out.trans (hw7.mono (by have := HG7.out; have := WC.out.size; omega))
      have CFe : Hid (∀ j, j < L → we.cell? ⟨B, j, none⟩ = some (.int .u8 (D.getD j 0))) := fun j hj => by
        rw [hw7.cell (by exact hBw), CF.out j hj, ← hZ.out]; exact congrArg (fun t => some (Value.int .u8 t)) (getD_app HL.out hj)
      have CTe : Hid (∀ j, j < len4 → ao = some ⟨g2, 0, none⟩ ∧ we.cell? ⟨g2, j, none⟩ = some (.int .u8 (Z.getD (L + j) 0))) := fun j hj => by
        obtain ⟨t1, t2, t3⟩ := CT.out j hj
        exact ⟨t1, by rw [hw7.cell (by exact (by omega : g2 < G)), t3]⟩
      have BD : Hid (Bytes D) := by rw [hD.out, ← hF.out]; exact chk_bytes (frm_bytes fill hfill ks ss n n) hfill
      have BZ : Hid (Bytes Z) := by rw [← hZ.out]; exact BD.out.app (Bytes.of HBT.out)
      have RZ : Hid (res Z ck = some L) := res_whole hn HG.out hF.out hD.out hZ.out HL.out
      have hL0 : 0 < L := by
        have := frm_ge fill ks ss n n
        rw [hF.out] at this
        have := len_ge hD.out HL.out
        omega
      clear ho7 hw7 CF CT HBT
      go_wp2_with fail
      refine (skip_yes G M M L len4 Z ck we HM.out (Nat.le_refl _) (by unfold maxLen; omega) CZ.out BZ.out RZ.out HMM.out).mono ?_
      rintro e w' ⟨⟨nq1, rfl⟩, ar, cr, rfl, har⟩
      have HAR : Hid (L < M → ar = some ⟨G, L, none⟩) := har
      have tl : ((len4 : Int) != (len4 : Int)) = false := by simp
      clear har
      go_upto_block 10 with fail
      go_cut [25] (fun i wf => ∃ nq, wf = we.drewN nq)
      case first =>
        go_wp2
        go_loopg [25] len4 (fun g i wr => ∃ k : Nat, k ≤ len4 ∧ Hid (k + g = len4) ∧ i = .int .i64 k ∧ ∃ nq, wr = we.drewN nq)
        case atStart => exact ⟨0, Nat.zero_le _, Nat.zero_add _, rfl, _, rfl⟩
        case round =>
          obtain ⟨k, hk, hkg, rfl, nq, rfl⟩ := hrel
          by_cases hlt : k < len4
          · obtain ⟨rfl, hct⟩ := CTe.out k hlt
            obtain rfl := HAR.out (by have := HMM.out; omega)
            have hcz := CZ.out (L + k) (by have := HMM.out; omega)
            obtain ⟨x, X⟩ : ∃ x, Hid (Z.getD (L + k) 0 = x) := ⟨_, rfl⟩
            rw [X.out] at hct hcz
            have hki : (k : Int) < (len4 : Int) := by omega
            go_wp2
            go_quiet (fail)
            go_wp2
            go_roundg (len4 - (k + 1))
            case measure => have := hkg.out; omega
            case rel => exact ⟨k + 1, by omega, (by omega : k + 1 + (len4 - (k + 1)) = len4), by go_num, _, rfl⟩
          · go_wp2
            go_meet
            case rel => exact ⟨_, rfl⟩
      case rest =>
      rename World => wf
      obtain ⟨nq2, rfl⟩ := hcut
      clear CTe HAR CZ
      have RC : Hid (∀ c, c < L → res (D.take c) ck = none) := fun c hc => res_cut hn HG.out hF.out hD.out HL.out hc
      have hneq := fun w a l c => run_neq_slice_nil_any (P := Trym.prog) w 22 5 a l c 0 0 Trym.underlying22
      have eL : (L : Int) - 1 = ((L - 1 : Nat) : Int) := by omega
      obtain ⟨L', hL'⟩ : ∃ L', L - 1 = L' := ⟨_, rfl⟩
      rw [hL'] at eL
      have hL'2 : L' < L := by omega
      have hL'3 : L' ≤ N := by omega
      clear hL'
      go_wp2_with fail
      refine (skip_no B N L' (D.take L') ck _ (take_len HL.out hL'2) hL'3 (by unfold maxLen; omega) (by exact take_cells (w := we) HL.out hL'2 CFe.out) (BD.out.take _) (RC.out L' hL'2)).mono ?_
      rintro e w' ⟨⟨nq3, rfl⟩, rfl⟩
      by_cases hc0 : 0 ≤ cut
      · by_cases hc1 : cut < (L : Int)
        · obtain ⟨c, rfl⟩ : ∃ c : Nat, cut = (c : Int) := ⟨cut.toNat, by omega⟩
          have hcL : c < L := by omega
          have hcN : c ≤ N := by omega
          go_wp2_with fail
          refine (skip_no B N c (D.take c) ck _ (take_len HL.out hcL) hcN (by unfold maxLen; omega) (by exact take_cells (w := we) HL.out hcL CFe.out) (BD.out.take _) (RC.out c hcL)).mono ?_
          rintro e w' ⟨⟨nq4, rfl⟩, rfl⟩
          go_wp2
          go_ret
          exact ⟨rfl, below_drewN1 WE.out _⟩
        · have hd1 : decide (cut < (L : Int)) = false := decide_eq_false hc1
          go_wp2
          go_ret
          exact ⟨rfl, below_drewN1 WE.out _⟩
      · have hd0 : decide ((0 : Int) ≤ cut) = false := decide_eq_false hc0
        go_wp2
        go_ret
        exact ⟨rfl, below_drewN1 WE.out _⟩
end Go.Proofs.Qxb6605493aMods.Skip
