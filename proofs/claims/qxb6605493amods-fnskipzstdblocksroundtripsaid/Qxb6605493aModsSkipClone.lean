/-
  THE WALKS of zzBytes_.., zzCloneBytes, zzCloneU32.
-/
import Derived.Test.Qxb6605493aModsRows
import Derived.Test.Qxb6605493aModsSkipPlain
import Derived.WalkKit
import Derived.Below
import Derived.WalkSpells
namespace Go.Proofs.Qxb6605493aMods.Skip
open Go.RowKit
set_option linter.unusedVariables false

theorem Trym.info5 : (Trym.prog.info? 5).map (fun i => (i.zero, i.size, i.bytes)) = some (some (.int .u8 0), 1, 1) := by kernel_rfl
theorem Trym.info25 : (Trym.prog.info? 25).map (fun i => (i.zero, i.size, i.bytes)) = some (some (.int .u32 0), 1, 4) := by kernel_rfl

/-- The first k numbers of zs, zeros up to n. -/
def upto (kd : IntKind) (zs : List Int) (n k : Nat) : List Value := (zs.take k).map (Value.int kd) ++ List.replicate (n - k) (Value.int kd 0)
theorem upto_zero (kd : IntKind) (zs : List Int) (n : Nat) : upto kd zs n 0 = List.replicate n (Value.int kd 0) := by simp [upto]
theorem upto_full (kd : IntKind) (zs : List Int) (n : Nat) (h : zs.length = n) : upto kd zs n n = zs.map (Value.int kd) := by simp [upto, ← h]
theorem upto_length (kd : IntKind) (zs : List Int) (n k : Nat) (h : zs.length = n) (hk : k ≤ n) : (upto kd zs n k).length = n := by simp [upto]; omega
theorem upto_set (kd : IntKind) (zs : List Int) (n k : Nat) (h : zs.length = n) (hk : k < n) : (upto kd zs n k).set k (Value.int kd (zs.getD k 0)) = upto kd zs n (k + 1) := by
  apply List.ext_getElem?
  intro j
  have hl := upto_length kd zs n k h (by omega)
  rw [List.getElem?_set]
  unfold upto
  by_cases hj : k = j
  · subst hj
    rw [if_pos rfl]
    have hl' := hl
    unfold upto at hl'
    rw [if_pos (by omega), List.getElem?_append_left (by simp; omega)]
    simp [show k < zs.length by omega]
  · rw [if_neg hj]
    by_cases hlt : j < k
    · rw [List.getElem?_append_left (by simp; omega), List.getElem?_append_left (by simp; omega)]
      simp [hlt, show j < k + 1 by omega]
    · rw [List.getElem?_append_right (by simp; omega), List.getElem?_append_right (by simp; omega)]
      simp only [List.length_map, List.length_take, List.getElem?_replicate]
      rw [show min k zs.length = k by omega, show min (k + 1) zs.length = k + 1 by omega]
      by_cases h2 : j < n
      · rw [if_pos (by omega), if_pos (by omega)]
      · rw [if_neg (by omega), if_neg (by omega)]
theorem upto_at (kd : IntKind) (zs : List Int) (n k : Nat) (h : zs.length = n) (hk : k < n) : (upto kd zs n k)[k]? = some (Value.int kd 0) := by
  unfold upto
  rw [List.getElem?_append_right (by simp; omega)]
  simp only [List.length_map, List.length_take, List.getElem?_replicate]
  rw [show min k zs.length = k by omega, if_pos (by omega)]

/-- What one round of the copy does to what is owned. -/
theorem rel_copy {kd : IntKind} {e : TypeId} {B n k : Nat} {zs : List Int} {w wr : World} (h : zs.length = n) (hk : k < n)
    (ho : wr.ownsRow B e 1 (.slice (some ⟨B, 0, none⟩) n n) n (upto kd zs n k)) (hb : Below B w wr) :
    (wr.setCell ⟨B, k, none⟩ (Value.int kd (zs.getD k 0))).ownsRow B e 1 (.slice (some ⟨B, 0, none⟩) n n) n (upto kd zs n (k + 1)) ∧ Below B w (wr.setCell ⟨B, k, none⟩ (Value.int kd (zs.getD k 0))) := by
  have hs := (ho.stored k (Value.int kd (zs.getD k 0))).1
  rw [upto_set kd zs n k h hk] at hs
  exact ⟨hs, hb.setCell (by exact Nat.le_refl _) _⟩

set_option maxHeartbeats 400000 in
theorem clone6 (b off len cap : Nat) (zs : List Int) (w : World) (hl : zs.length = len) (hlen : len ≤ 65536) (hbl : b < w.heap.size)
    (hc : ∀ j, j < len → w.cell? ⟨b, off + j, none⟩ = some (.int .u8 (zs.getD j 0))) :
    Calls Trym.prog 6 #[.slice (some ⟨b, off, none⟩) len cap] w fun e w' => e = .returned (.slice (some ⟨w.heap.size, 0, none⟩) len len) ∧
      w'.ownsRow w.heap.size 5 1 (.slice (some ⟨w.heap.size, 0, none⟩) len len) len (zs.map (Value.int .u8)) ∧ Below w.heap.size w w' := by
  obtain ⟨i0, hi, hz0, hz1, hz2⟩ := info_parts Trym.info5
  have hnil := fun w a l c => Lib.run_eql_slice_nil (P := Trym.prog) w 22 5 a l c 0 0 Trym.underlying22
  have HL : Hid (zs.length = len) := hl
  clear hl
  go_enter Trym.func6, Trym.ntmps6
  go_wp2_with (first | (at_make; refine wpList_make_full _ rfl _ _ 22 rfl w.heap.size 5 i0 (.int .u8 0) 1 Trym.underlying22 hi hz0 hz1 _ _ _ _ len rfl rfl rfl rfl ?_ ?_ ?_ ?_))
  · rw [hz2]; omega
  · unfold maxLen; omega
  · exact Nat.le_refl _
  intro w1 hown hgrow
  have hb1 : Below w.heap.size w w1 := (Below.refl _ _).grown hgrow (Nat.le_refl _) (by intro k h; cases h)
  have hown1 : w1.ownsRow w.heap.size 5 1 (.slice (some ⟨w.heap.size, 0, none⟩) len len) len (upto .u8 zs len 0) := by
    rw [upto_zero]; simpa [toList_madeCells_one, Value.cells] using hown
  clear hown hgrow hnil hi hz0 hz1 hz2
  go_wp2
  go_loopw [4] (fun i wr => ∃ k : Nat, k ≤ len ∧ i = .int .i64 k ∧ wr.ownsRow w.heap.size 5 1 (.slice (some ⟨w.heap.size, 0, none⟩) len len) len (upto .u8 zs len k) ∧ Below w.heap.size w wr)
    (fun i _ => len - (intOf i).toNat)
  case atStart => exact ⟨0, Nat.zero_le _, rfl, hown1, hb1⟩
  case round =>
    obtain ⟨k, hk, rfl, ho, hb⟩ := hrel
    clear hown1 hb1
    by_cases hlt : k < len
    · have hcx : wr.cell? ⟨b, off + k, none⟩ = some (.int .u8 (zs.getD k 0)) := (hb.cell (by exact hbl)).trans (hc k hlt)
      have hf : wr.frozen? ⟨w.heap.size, k, none⟩ = false := ho.frozenAt k
      have hold : wr.cell? ⟨w.heap.size, k, none⟩ = some (.int .u8 0) := (ho.cellAt k (by omega)).trans (upto_at _ _ _ _ HL.out hlt)
      have R := rel_copy HL.out hlt ho hb
      obtain ⟨x, X⟩ : ∃ x, Hid (zs.getD k 0 = x) := ⟨_, rfl⟩
      rw [X.out] at hcx R
      have HR : Hid _ := R
      clear hc R ho hb
      go_wp2
      go_roundw
      case rel => exact ⟨k + 1, by omega, by go_num, HR.out.1, HR.out.2⟩
      case measure => simp [intOf]; omega
    · have HO : Hid (wr.ownsRow w.heap.size 5 1 (.slice (some ⟨w.heap.size, 0, none⟩) len len) len (zs.map (Value.int .u8)) ∧ Below w.heap.size w wr) := by
        have : k = len := by omega
        subst this
        rw [upto_full _ _ _ HL.out] at ho
        exact ⟨ho, hb⟩
      clear ho hb hc
      go_wp2
      go_ret
      exact ⟨rfl, HO.out.1, HO.out.2⟩

set_option maxHeartbeats 400000 in
theorem clone7 (b off len cap : Nat) (zs : List Int) (w : World) (hl : zs.length = len) (hlen : len ≤ 65536) (hbl : b < w.heap.size)
    (hc : ∀ j, j < len → w.cell? ⟨b, off + j, none⟩ = some (.int .u32 (zs.getD j 0))) :
    Calls Trym.prog 7 #[.slice (some ⟨b, off, none⟩) len cap] w fun e w' => e = .returned (.slice (some ⟨w.heap.size, 0, none⟩) len len) ∧
      w'.ownsRow w.heap.size 25 1 (.slice (some ⟨w.heap.size, 0, none⟩) len len) len (zs.map (Value.int .u32)) ∧ Below w.heap.size w w' := by
  obtain ⟨i0, hi, hz0, hz1, hz2⟩ := info_parts Trym.info25
  have hnil := fun w a l c => Lib.run_eql_slice_nil (P := Trym.prog) w 23 25 a l c 0 0 Trym.underlying23
  have HL : Hid (zs.length = len) := hl
  clear hl
  go_enter Trym.func7, Trym.ntmps7
  go_wp2_with (first | (at_make; refine wpList_make_full _ rfl _ _ 23 rfl w.heap.size 25 i0 (.int .u32 0) 1 Trym.underlying23 hi hz0 hz1 _ _ _ _ len rfl rfl rfl rfl ?_ ?_ ?_ ?_))
  · rw [hz2]; omega
  · unfold maxLen; omega
  · exact Nat.le_refl _
  intro w1 hown hgrow
  have hb1 : Below w.heap.size w w1 := (Below.refl _ _).grown hgrow (Nat.le_refl _) (by intro k h; cases h)
  have hown1 : w1.ownsRow w.heap.size 25 1 (.slice (some ⟨w.heap.size, 0, none⟩) len len) len (upto .u32 zs len 0) := by
    rw [upto_zero]; simpa [toList_madeCells_one, Value.cells] using hown
  clear hown hgrow hnil hi hz0 hz1 hz2
  go_wp2
  go_loopw [4] (fun i wr => ∃ k : Nat, k ≤ len ∧ i = .int .i64 k ∧ wr.ownsRow w.heap.size 25 1 (.slice (some ⟨w.heap.size, 0, none⟩) len len) len (upto .u32 zs len k) ∧ Below w.heap.size w wr)
    (fun i _ => len - (intOf i).toNat)
  case atStart => exact ⟨0, Nat.zero_le _, rfl, hown1, hb1⟩
  case round =>
    obtain ⟨k, hk, rfl, ho, hb⟩ := hrel
    clear hown1 hb1
    by_cases hlt : k < len
    · have hcx : wr.cell? ⟨b, off + k, none⟩ = some (.int .u32 (zs.getD k 0)) := (hb.cell (by exact hbl)).trans (hc k hlt)
      have hf : wr.frozen? ⟨w.heap.size, k, none⟩ = false := ho.frozenAt k
      have hold : wr.cell? ⟨w.heap.size, k, none⟩ = some (.int .u32 0) := (ho.cellAt k (by omega)).trans (upto_at _ _ _ _ HL.out hlt)
      have R := rel_copy HL.out hlt ho hb
      obtain ⟨x, X⟩ : ∃ x, Hid (zs.getD k 0 = x) := ⟨_, rfl⟩
      rw [X.out] at hcx R
      have HR : Hid _ := R
      clear hc R ho hb
      go_wp2
      go_roundw
      case rel => exact ⟨k + 1, by omega, by go_num, HR.out.1, HR.out.2⟩
      case measure => simp [intOf]; omega
    · have HO : Hid (wr.ownsRow w.heap.size 25 1 (.slice (some ⟨w.heap.size, 0, none⟩) len len) len (zs.map (Value.int .u32)) ∧ Below w.heap.size w wr) := by
        have : k = len := by omega
        subst this
        rw [upto_full _ _ _ HL.out] at ho
        exact ⟨ho, hb⟩
      clear ho hb hc
      go_wp2
      go_ret
      exact ⟨rfl, HO.out.1, HO.out.2⟩

/-- The empty slice, nil or not. -/
theorem clone6_zero (a : Option Addr) (cap : Nat) (w : World) :
    Calls Trym.prog 6 #[.slice a 0 cap] w fun e w' => (∃ ao, e = .returned (.slice ao 0 0)) ∧ Below w.heap.size w w' := by
  have hnil := fun w a l c => Lib.run_eql_slice_nil (P := Trym.prog) w 22 5 a l c 0 0 Trym.underlying22
  obtain ⟨i0, hi, hz0, hz1, hz2⟩ := info_parts Trym.info5
  cases a with
  | none =>
    go_enter Trym.func6, Trym.ntmps6
    go_wp2
    go_ret
    exact ⟨⟨_, rfl⟩, Below.refl _ _⟩
  | some x =>
    go_enter Trym.func6, Trym.ntmps6
    go_wp2_with (first | (at_make; refine wpList_make_full _ rfl _ _ 22 rfl w.heap.size 5 i0 (.int .u8 0) 1 Trym.underlying22 hi hz0 hz1 _ _ _ _ 0 rfl rfl rfl rfl ?_ ?_ ?_ ?_))
    · rw [hz2]; omega
    · unfold maxLen; omega
    · exact Nat.le_refl _
    intro w1 hown hgrow
    have hb1 : Below w.heap.size w w1 := (Below.refl _ _).grown hgrow (Nat.le_refl _) (by intro k h; cases h)
    clear hown hgrow hnil hi hz0 hz1 hz2
    go_wp2
    refine wp_loop_rounds 1 ?_
    rw [rounds_succ]
    go_wp2
    go_ret
    exact ⟨⟨_, rfl⟩, hb1⟩

/-- The bound on lengths. -/
theorem bytes5 (a0 a1 a4 : Option Addr) (l0 c0 l1 c1 l4 c4 : Nat) (fill : Int) (ck : Bool) (cut : Int) (w : World) (h0 : l0 ≤ maxLen) (h1 : l1 ≤ maxLen) (h4 : l4 ≤ maxLen) :
    Calls Trym.prog 5 #[.slice a0 l0 c0, .slice a1 l1 c1, .int .u8 fill, .bool ck, .slice a4 l4 c4, .int .i64 cut] w fun e w' => (∃ ok, e = .returned (.bool ok)) ∧ w' = w := by
  unfold maxLen at h0 h1 h4
  go_enter Trym.func5, Trym.ntmps5
  go_wp2
  all_goals (go_ret; exact ⟨⟨_, rfl⟩, rfl⟩)
end Go.Proofs.Qxb6605493aMods.Skip
