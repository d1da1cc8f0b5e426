/-
  THE PLAIN PART of FnSkipZstdBlocksRoundTrip: lists and integers alone; nothing of the program.
-/
import Derived.Laws.BitsAllLaws
namespace Go.Proofs.Qxb6605493aMods.Skip
set_option linter.unusedVariables false

/-! ### The reader -/
/-- The three bytes at p as a number. -/
def hd (bs : List Int) (p : Nat) : Int := bs.getD p 0 + bs.getD (p + 1) 0 * 256 + bs.getD (p + 2) 0 * 65536
/-- How much lies behind the header. -/
def szOf (h : Int) : Nat := if h / 2 % 4 = 1 then 1 else (h / 8).toNat
/-- One block at p. -/
def stepL (bs : List Int) (p : Nat) : Option (Bool × Nat) :=
  if bs.length < p + 3 then none
  else if hd bs p / 2 % 4 = 3 then none
  else if bs.length < p + 3 + szOf (hd bs p) then none
  else some (decide (hd bs p % 2 = 1), p + 3 + szOf (hd bs p))
/-- Blocks up to the last. -/
def runL (bs : List Int) : Nat → Nat → Option Nat
  | 0, _ => none
  | f + 1, p => match stepL bs p with
    | none => none
    | some (true, q) => some q
    | some (false, q) => runL bs f q

/-! ### The writer -/
def hdr (k s : Int) (last : Bool) : Int := s * 8 + k * 2 + (if last then 1 else 0)
def pay (fill k s : Int) : List Int := if k = 1 then [fill] else (List.range s.toNat).map fun (j : Nat) => (fill + (j : Int)) % 256
def blk (fill k s : Int) (last : Bool) : List Int :=
  [hdr k s last % 256, hdr k s last / 256 % 256, hdr k s last / 65536 % 256] ++ pay fill k s
/-- The first m blocks of n. -/
def frm (fill : Int) (ks ss : List Int) (n : Nat) : Nat → List Int
  | 0 => []
  | m + 1 => frm fill ks ss n m ++ blk fill (ks.getD m 0) (ss.getD m 0) (decide (m + 1 = n))

theorem pay_length (fill k s : Int) : (pay fill k s).length = if k = 1 then 1 else s.toNat := by
  unfold pay; split <;> simp
theorem blk_length (fill k s : Int) (last : Bool) : (blk fill k s last).length = 3 + if k = 1 then 1 else s.toNat := by
  simp [blk, pay_length]; omega

theorem hdr_bounds {k s : Int} (last : Bool) (hk0 : 0 ≤ k) (hk2 : k ≤ 2) (hs0 : 0 ≤ s) (hs1 : s < 2097152) : 0 ≤ hdr k s last ∧ hdr k s last < 16777216 := by
  unfold hdr; split <;> omega
theorem hdr_kind {k s : Int} (last : Bool) (hk0 : 0 ≤ k) (hk2 : k ≤ 2) (hs0 : 0 ≤ s) (hs1 : s < 2097152) : hdr k s last / 2 % 4 = k := by
  unfold hdr; split <;> omega
theorem hdr_size {k s : Int} (last : Bool) (hk0 : 0 ≤ k) (hk2 : k ≤ 2) (hs0 : 0 ≤ s) (hs1 : s < 2097152) : hdr k s last / 8 = s := by
  unfold hdr; split <;> omega
theorem hdr_last {k s : Int} (last : Bool) (hk0 : 0 ≤ k) (hk2 : k ≤ 2) (hs0 : 0 ≤ s) (hs1 : s < 2097152) : decide (hdr k s last % 2 = 1) = last := by
  unfold hdr; cases last <;> simp <;> omega
theorem hdr_szOf {k s : Int} (last : Bool) (hk0 : 0 ≤ k) (hk2 : k ≤ 2) (hs0 : 0 ≤ s) (hs1 : s < 2097152) : szOf (hdr k s last) = if k = 1 then 1 else s.toNat := by
  unfold szOf; rw [hdr_kind last hk0 hk2 hs0 hs1, hdr_size last hk0 hk2 hs0 hs1]

/-- One block is read as it was written, or refused where it is cut short. -/
theorem step_blk {fill k s : Int} {last : Bool} (hk0 : 0 ≤ k) (hk2 : k ≤ 2) (hs0 : 0 ≤ s) (hs1 : s < 2097152) (bs : List Int) (p : Nat)
    (h : ∀ j, j < 3 → p + j < bs.length → bs.getD (p + j) 0 = (blk fill k s last).getD j 0) :
    stepL bs p = if p + (blk fill k s last).length ≤ bs.length then some (last, p + (blk fill k s last).length) else none := by
  unfold stepL
  by_cases h3 : bs.length < p + 3
  · rw [if_pos h3, if_neg (by rw [blk_length]; omega)]
  · rw [if_neg h3]
    have hb := hdr_bounds last hk0 hk2 hs0 hs1
    have e : hd bs p = hdr k s last := by
      have e0 := h 0 (by omega) (by omega)
      have e1 := h 1 (by omega) (by omega)
      have e2 := h 2 (by omega) (by omega)
      simp only [Nat.add_zero, blk, List.cons_append, List.nil_append, List.getD_cons_zero, List.getD_cons_succ] at e0 e1 e2
      unfold hd
      rw [e0, e1, e2]
      generalize hdr k s last = H at *
      omega
    rw [e, hdr_kind last hk0 hk2 hs0 hs1, hdr_szOf last hk0 hk2 hs0 hs1, hdr_last last hk0 hk2 hs0 hs1, if_neg (by omega), blk_length]
    generalize (if k = 1 then 1 else s.toNat) = Z
    by_cases hl : bs.length < p + 3 + Z
    · rw [if_pos hl, if_neg (by omega)]
    · rw [if_neg hl, if_pos (by omega), Nat.add_assoc]

/-- What the blocks are. -/
def Good (ks ss : List Int) (n : Nat) : Prop := ∀ i, i < n → 0 ≤ ks.getD i 0 ∧ ks.getD i 0 ≤ 2 ∧ 0 ≤ ss.getD i 0 ∧ ss.getD i 0 < 2097152

theorem frm_prefix (fill : Int) (ks ss : List Int) (n : Nat) : ∀ (m d : Nat), ∃ r, frm fill ks ss n (m + d) = frm fill ks ss n m ++ r
  | m, 0 => ⟨[], by simp⟩
  | m, d + 1 => by
    obtain ⟨r, hr⟩ := frm_prefix fill ks ss n m d
    exact ⟨r ++ blk fill (ks.getD (m + d) 0) (ss.getD (m + d) 0) (decide (m + d + 1 = n)), by rw [← Nat.add_assoc, frm, hr, List.append_assoc]⟩
theorem frm_mono (fill : Int) (ks ss : List Int) (n : Nat) {m m' : Nat} (h : m ≤ m') : (frm fill ks ss n m).length ≤ (frm fill ks ss n m').length := by
  obtain ⟨r, hr⟩ := frm_prefix fill ks ss n m (m' - m)
  rw [show m + (m' - m) = m' by omega] at hr
  rw [hr]; simp
theorem frm_at (fill : Int) (ks ss : List Int) (n i : Nat) (hi : i < n) (j : Nat) (hj : j < (blk fill (ks.getD i 0) (ss.getD i 0) (decide (i + 1 = n))).length) :
    (frm fill ks ss n n).getD ((frm fill ks ss n i).length + j) 0 = (blk fill (ks.getD i 0) (ss.getD i 0) (decide (i + 1 = n))).getD j 0 := by
  obtain ⟨r, hr⟩ := frm_prefix fill ks ss n (i + 1) (n - (i + 1))
  rw [show i + 1 + (n - (i + 1)) = n by omega] at hr
  rw [hr, frm, List.append_assoc]
  generalize blk fill (ks.getD i 0) (ss.getD i 0) (decide (i + 1 = n)) = B at *
  generalize frm fill ks ss n i = A
  simp only [List.getD]
  rw [List.getElem?_append_right (by omega), Nat.add_sub_cancel_left, List.getElem?_append_left hj]

/-- THE LAW: whatever begins as the frame does is read to the frame's end, or refused where it is shorter. -/
theorem run_frm (fill : Int) (ks ss : List Int) (n : Nat) (hg : Good ks ss n) (bs : List Int)
    (h : ∀ j, j < bs.length → j < (frm fill ks ss n n).length → bs.getD j 0 = (frm fill ks ss n n).getD j 0) :
    ∀ (d i f : Nat), i + d = n → 0 < d → ((frm fill ks ss n n).length ≤ bs.length → d ≤ f) →
      runL bs f (frm fill ks ss n i).length = if (frm fill ks ss n n).length ≤ bs.length then some (frm fill ks ss n n).length else none := by
  intro d
  induction d with
  | zero => intro i f _ h0; omega
  | succ d ih =>
    intro i f hid _ hf
    by_cases hf0 : f = 0
    · subst hf0
      rw [runL, if_neg (fun h => by have := hf h; omega)]
    obtain ⟨f, rfl⟩ : ∃ f', f = f' + 1 := ⟨f - 1, by omega⟩
    obtain ⟨g1, g2, g3, g4⟩ := hg i (by omega)
    have hlen : (frm fill ks ss n (i + 1)).length = (frm fill ks ss n i).length + (blk fill (ks.getD i 0) (ss.getD i 0) (decide (i + 1 = n))).length := by
      rw [frm]; simp
    have hmono := frm_mono fill ks ss n (m := i + 1) (m' := n) (by omega)
    have hbl := blk_length fill (ks.getD i 0) (ss.getD i 0) (decide (i + 1 = n))
    have hs := step_blk (fill := fill) (last := decide (i + 1 = n)) g1 g2 g3 g4 bs (frm fill ks ss n i).length (fun j hj hlt => by
      rw [h _ hlt (by omega)]
      exact frm_at fill ks ss n i (by omega) j (by omega))
    rw [runL, hs]
    by_cases hle : (frm fill ks ss n i).length + (blk fill (ks.getD i 0) (ss.getD i 0) (decide (i + 1 = n))).length ≤ bs.length
    · rw [if_pos hle]
      by_cases hl : i + 1 = n
      · subst hl
        simp only [decide_true]
        simp only [decide_true] at hlen hle
        rw [if_pos (by omega), hlen]
      · have := ih (i + 1) f (by omega) (by omega) (fun h => by have := hf h; omega)
        rw [← this, hlen]
        simp only [decide_eq_false hl]
    · rw [if_neg hle, if_neg (by omega)]

theorem frm_ge (fill : Int) (ks ss : List Int) (n : Nat) : ∀ m, 3 * m ≤ (frm fill ks ss n m).length
  | 0 => by simp [frm]
  | m + 1 => by
    have := frm_ge fill ks ss n m
    rw [frm, List.length_append, blk_length]; omega

theorem run_all (fill : Int) (ks ss : List Int) (n : Nat) (hn : 0 < n) (hg : Good ks ss n) (bs : List Int)
    (h : ∀ j, j < bs.length → j < (frm fill ks ss n n).length → bs.getD j 0 = (frm fill ks ss n n).getD j 0) (f : Nat) (hf : (frm fill ks ss n n).length ≤ bs.length → n ≤ f) :
    runL bs f 0 = if (frm fill ks ss n n).length ≤ bs.length then some (frm fill ks ss n n).length else none :=
  run_frm fill ks ss n hg bs h n 0 f (by omega) hn hf

/-! ### How long the blocks are -/
/-- The content of the first m blocks. -/
def pays (ks ss : List Int) : Nat → Int
  | 0 => 0
  | m + 1 => pays ks ss m + if ks.getD m 0 = 1 then 1 else ss.getD m 0
theorem pays_bd (ks ss : List Int) (m : Nat) (hg : Good ks ss m) : 0 ≤ pays ks ss m ∧ pays ks ss m ≤ m * 2097152 := by
  induction m with
  | zero => simp [pays]
  | succ m ih =>
    have h1 := ih (fun i hi => hg i (by omega))
    obtain ⟨_, _, g3, g4⟩ := hg m (by omega)
    unfold pays
    split <;> omega
theorem pays_mono (ks ss : List Int) (n : Nat) (hg : Good ks ss n) (m : Nat) (hm : m ≤ n) : pays ks ss m ≤ pays ks ss n := by
  induction n with
  | zero => have : m = 0 := by omega
            subst this; simp
  | succ n ih =>
    by_cases h : m = n + 1
    · subst h; simp
    · have h1 := ih (fun i hi => hg i (by omega)) (by omega)
      obtain ⟨_, _, g3, g4⟩ := hg n (by omega)
      rw [pays]
      split <;> omega
theorem frm_length (fill : Int) (ks ss : List Int) (n : Nat) (m : Nat) (hg : Good ks ss m) : ((frm fill ks ss n m).length : Int) = pays ks ss m + 3 * m := by
  induction m with
  | zero => simp [frm, pays]
  | succ m ih =>
    have h1 := ih (fun i hi => hg i (by omega))
    obtain ⟨_, _, g3, g4⟩ := hg m (by omega)
    rw [frm, pays, List.length_append, blk_length]
    split <;> omega

/-- The content of a block that is no run, its first j bytes. -/
def payTo (fill : Int) (j : Nat) : List Int := (List.range j).map fun (i : Nat) => (fill + (i : Int)) % 256
theorem payTo_succ (fill : Int) (j : Nat) : payTo fill (j + 1) = payTo fill j ++ [(fill + (j : Int)) % 256] := by simp [payTo, List.range_succ]
theorem payTo_length (fill : Int) (j : Nat) : (payTo fill j).length = j := by simp [payTo]
theorem blk_one {fill x y hv : Int} {last : Bool} (A : List Int) (h : hv = hdr x y last) (hb : 0 ≤ hv ∧ hv < 16777216) (hx : x = 1) :
    A ++ blk fill x y last = A ++ [hv % 256, hv / 256 % 256, hv / 65536] ++ [fill] := by
  unfold blk pay
  rw [if_pos hx, ← h, show hv / 65536 % 256 = hv / 65536 by omega]
  simp
theorem blk_more {fill x y hv : Int} {last : Bool} (A : List Int) (h : hv = hdr x y last) (hb : 0 ≤ hv ∧ hv < 16777216) (hx : ¬ x = 1) :
    A ++ blk fill x y last = A ++ [hv % 256, hv / 256 % 256, hv / 65536] ++ payTo fill y.toNat := by
  unfold blk pay payTo
  rw [if_neg hx, ← h, show hv / 65536 % 256 = hv / 65536 by omega]
  simp

/-! ### Every byte is a byte -/
def Bytes (l : List Int) : Prop := ∀ x ∈ l, 0 ≤ x ∧ x ≤ 255
theorem Bytes.app {a b : List Int} (ha : Bytes a) (hb : Bytes b) : Bytes (a ++ b) := fun x hx => by
  rcases List.mem_append.1 hx with h | h
  · exact ha x h
  · exact hb x h
theorem Bytes.at {l : List Int} (h : Bytes l) (j : Nat) : 0 ≤ l.getD j 0 ∧ l.getD j 0 ≤ 255 := by
  by_cases hj : j < l.length
  · have := h l[j] (List.getElem_mem hj)
    simpa [List.getD, hj] using this
  · have : l[j]? = none := List.getElem?_eq_none (by omega)
    simp [List.getD, this]
theorem Bytes.of {l : List Int} (h : ∀ j, 0 ≤ l.getD j 0 ∧ l.getD j 0 ≤ 255) : Bytes l := fun x hx => by
  obtain ⟨j, hj, rfl⟩ := List.mem_iff_getElem.1 hx
  have := h j
  simpa [List.getD, hj] using this
theorem Bytes.take {l : List Int} (h : Bytes l) (c : Nat) : Bytes (l.take c) := fun x hx => h x (List.mem_of_mem_take hx)
theorem frm_bytes (fill : Int) (hfill : 0 ≤ fill ∧ fill ≤ 255) (ks ss : List Int) (n : Nat) : ∀ m, Bytes (frm fill ks ss n m)
  | 0 => fun x hx => by simp [frm] at hx
  | m + 1 => by
    rw [frm]
    refine (frm_bytes fill hfill ks ss n m).app ?_
    intro x hx
    unfold blk at hx
    rcases List.mem_append.1 hx with h | h
    · simp at h
      rcases h with h | h | h <;> omega
    · unfold pay at h
      split at h
      · simp at h; omega
      · simp at h
        obtain ⟨j, _, rfl⟩ := h
        omega

/-! ### Bits -/
theorem or_lo {a b : Int} (i : Nat) (hi : i ≤ 32) (ha0 : 0 ≤ a) (ha : a < 2 ^ i) (hb0 : 0 ≤ b) (hb : b < 4294967296) (hd : b % 2 ^ i = 0) : bits .or .u32 b a = b + a := by
  have h32 : (2 : Int) ^ i ≤ 4294967296 := by
    have : (2 : Int) ^ i ≤ 2 ^ 32 := by
      exact_mod_cast Nat.pow_le_pow_right (by omega) hi
    simpa using this
  rw [u32_or b a hb0 hb ha0 (by omega), nat_join i b.toNat a.toNat]
  · omega
  · have : ((b.toNat % 2 ^ i : Nat) : Int) = 0 := by
      rw [Int.natCast_emod, Int.toNat_of_nonneg hb0]; simpa using hd
    omega
  · have : ((a.toNat : Nat) : Int) < ((2 ^ i : Nat) : Int) := by
      rw [Int.toNat_of_nonneg ha0]; simpa using ha
    omega
theorem or_hi {a b : Int} (i : Nat) (hi : i ≤ 32) (ha0 : 0 ≤ a) (ha : a < 2 ^ i) (hb0 : 0 ≤ b) (hb : b < 4294967296) (hd : b % 2 ^ i = 0) : bits .or .u32 a b = a + b := by
  have h32 : (2 : Int) ^ i ≤ 4294967296 := by
    have : (2 : Int) ^ i ≤ 2 ^ 32 := by
      exact_mod_cast Nat.pow_le_pow_right (by omega) hi
    simpa using this
  rw [u32_or a b ha0 (by omega) hb0 hb, Nat.or_comm, nat_join i b.toNat a.toNat]
  · omega
  · have : ((b.toNat % 2 ^ i : Nat) : Int) = 0 := by
      rw [Int.natCast_emod, Int.toNat_of_nonneg hb0]; simpa using hd
    omega
  · have : ((a.toNat : Nat) : Int) < ((2 ^ i : Nat) : Int) := by
      rw [Int.toNat_of_nonneg ha0]; simpa using ha
    omega
theorem and3 {a : Int} (ha0 : 0 ≤ a) (ha : a < 4294967296) : bits .and .u32 a 3 = a % 4 := by
  rw [u32_and a 3 ha0 ha (by omega) (by omega)]
  show ((a.toNat &&& 3 : Nat) : Int) = _
  rw [nat_mask2]; omega
theorem and1 {a : Int} (ha0 : 0 ≤ a) (ha : a < 4294967296) : bits .and .u32 a 1 = a % 2 := by
  rw [u32_and a 1 ha0 ha (by omega) (by omega)]
  show ((a.toNat &&& 1 : Nat) : Int) = _
  rw [nat_mask1]; omega

end Go.Proofs.Qxb6605493aMods.Skip
