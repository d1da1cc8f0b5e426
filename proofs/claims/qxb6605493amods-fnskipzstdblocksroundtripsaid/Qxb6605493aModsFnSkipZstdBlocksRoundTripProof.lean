/-
  A PROOF OF 'Rows.FnSkipZstdBlocksRoundTripSaid' ('example.com/mirrorwake/mirrorwake/zzlaws_internal_recordbatch_b1.FnSkipZstdBlocksRoundTrip'), WRITTEN BY PROGRAM (proof-skeleton.mjs, third state) off the guide's own print for that function. Not trusted: Lean checks it.
  The walk is typed by hand (its great part: Qxb6605493aModsSkipMain.lean); all else is the guide's own way at this function's number and types.
-/
import Derived.Test.Qxb6605493aModsSkipMain
import Derived.WalkKit
import Derived.ProofKit
import Derived.OpenShut
import Derived.ShutString
import Derived.ChangeOld
import Derived.Below
namespace Go.Proofs.Qxb6605493aMods.fnSkipZstdBlocksRoundTrip
open Go.ChangeShapes Go.WideShapes Go.ChangeAt Go.RowKit
open Go.ChangeMaps (open_string shut_string)
set_option linter.unusedVariables false

theorem own : ownKnob Trym.prog.godebug = none := by kernel_rfl
theorem laidOut : laidOutB Trym.prog = true := by kernel_rfl

/-- WHAT THE WALK IS TOLD OF A SLICE OF INTEGERS THAT CAME IN: it is nil; or it leads to a row of 'cap' cells, the numbers 'zs' (the first 'len' are its elements, the rest its spare room), each fitting its kind. -/
def IsRow (k : IntKind) (w : World) (a : Option Addr) (len cap : Nat) (zs : List Int) : Prop :=
  (a = none ∧ len = 0 ∧ cap = 0 ∧ zs = []) ∨
  ∃ x, a = some x ∧ len ≤ cap ∧ cap ≤ maxLen ∧ zs.length = cap ∧ (∀ i, i < zs.length → w.cell? (x.add i) = some (.int k (zs.getD i 0))) ∧ ∀ n ∈ zs, (Lit.int k n).wf = true

/-! ### STEP 1: THE WALK: the ways that return at once; the rest by 'main_walk'. -/
theorem row_cells {k : IntKind} {w : World} {a : Option Addr} {len cap : Nat} {zs : List Int} (h : IsRow k w a len cap zs) :
    (zs.take len).length = len ∧ len ≤ maxLen ∧ (∀ n ∈ zs, (Lit.int k n).wf = true) ∧
    (0 < len → ∃ b off, b < w.heap.size ∧ a = some ⟨b, off, none⟩ ∧ ∀ j, j < len → w.cell? ⟨b, off + j, none⟩ = some (.int k ((zs.take len).getD j 0))) := by
  rcases h with ⟨rfl, rfl, rfl, rfl⟩ | ⟨x, rfl, hlc, hcm, hz, hc, hw⟩
  · exact ⟨rfl, Nat.zero_le _, by simp, fun h => by omega⟩
  · refine ⟨by simp; omega, by omega, hw, fun h0 => ?_⟩
    obtain ⟨b, off, rfl, hc'⟩ := ints_at hc (by omega)
    have hcell := hc' 0 (by omega)
    refine ⟨b, off, World.block_lt_of_cell? w _ hcell, rfl, fun j hj => ?_⟩
    rw [hc' j (by omega)]
    simp [List.getD, hj]

theorem take_wf {zs : List Int} {hi : Int} (n : Nat) (h0 : 0 ≤ hi) (h : ∀ n ∈ zs, 0 ≤ n ∧ n ≤ hi) (j : Nat) : 0 ≤ (zs.take n).getD j 0 ∧ (zs.take n).getD j 0 ≤ hi := by
  by_cases hj : j < (zs.take n).length
  · have := h (zs.take n)[j] (List.mem_of_mem_take (List.getElem_mem hj))
    rw [List.getD, List.getElem?_eq_getElem hj]
    exact this
  · have : (zs.take n)[j]? = none := List.getElem?_eq_none (by omega)
    rw [List.getD, this]
    exact ⟨Int.le_refl _, h0⟩

set_option maxRecDepth 100000 in
set_option maxHeartbeats 800000 in
theorem early (a0 : Option Addr) (len0 cap0 : Nat) (a1 : Option Addr) (len1 cap1 : Nat) (a2 : Int) (a3 : Bool) (a4 : Option Addr) (len4 cap4 : Nat) (a5 : Int) (w : World) (m0 : len0 ≤ maxLen) (m1 : len1 ≤ maxLen) (m4 : len4 ≤ maxLen)
    (h : (4096 < len0 ∨ 4096 < len1 ∨ 65536 < len4) ∨ (¬ len0 = len1 ∨ len0 = 0)) :
    Calls Trym.prog 3 #[.slice a0 len0 cap0, .slice a1 len1 cap1, .int .u8 a2, .bool a3, .slice a4 len4 cap4, .int .i64 a5] w fun e w' => e = .returned (.bool true) ∧ Below w.heap.size w w' := by
  have HB : Hid (Calls Trym.prog 5 _ w _) := Skip.bytes5 a0 a1 a4 len0 cap0 len1 cap1 len4 cap4 a2 a3 a5 w m0 m1 m4
  unfold maxLen at m0 m1 m4
  by_cases h0 : 4096 < len0
  · clear h
    go_enter Trym.func3, Trym.ntmps3
    go_wp2_with fail
    refine HB.out.mono ?_
    rintro e w' ⟨⟨ok, rfl⟩, rfl⟩
    cases ok <;> (go_wp2; go_ret; exact ⟨rfl, Below.refl _ _⟩)
  by_cases h1 : 4096 < len1
  · clear h
    go_enter Trym.func3, Trym.ntmps3
    go_wp2_with fail
    refine HB.out.mono ?_
    rintro e w' ⟨⟨ok, rfl⟩, rfl⟩
    cases ok <;> (go_wp2; go_ret; exact ⟨rfl, Below.refl _ _⟩)
  by_cases h4 : 65536 < len4
  · clear h
    go_enter Trym.func3, Trym.ntmps3
    go_wp2_with fail
    refine HB.out.mono ?_
    rintro e w' ⟨⟨ok, rfl⟩, rfl⟩
    cases ok <;> (go_wp2; go_ret; exact ⟨rfl, Below.refl _ _⟩)
  by_cases he : len0 = len1
  · have hz : len0 = 0 := by omega
    subst he; subst hz
    clear h
    go_enter Trym.func3, Trym.ntmps3
    go_wp2_with fail
    refine HB.out.mono ?_
    rintro e w' ⟨⟨ok, rfl⟩, rfl⟩
    cases ok <;> (go_wp2; go_ret; exact ⟨rfl, Below.refl _ _⟩)
  · have hne : ((len0 : Int) != (len1 : Int)) = true := by simp; omega
    clear h
    go_enter Trym.func3, Trym.ntmps3
    go_wp2_with fail
    refine HB.out.mono ?_
    rintro e w' ⟨⟨ok, rfl⟩, rfl⟩
    cases ok <;> (go_wp2; go_ret; exact ⟨rfl, Below.refl _ _⟩)

theorem later {len0 len1 len4 : Nat} (h : ¬ ((4096 < len0 ∨ 4096 < len1 ∨ 65536 < len4) ∨ (¬ len0 = len1 ∨ len0 = 0))) : 0 < len0 ∧ len0 ≤ 4096 ∧ len4 ≤ 65536 ∧ len0 = len1 := by omega

theorem walk (a0 : Option Addr) (len0 cap0 : Nat) (z0 : List Int) (a1 : Option Addr) (len1 cap1 : Nat) (z1 : List Int) (a2 : Int) (a3 : Bool) (a4 : Option Addr) (len4 cap4 : Nat) (z4 : List Int) (a5 : Int) (w : World) (w0 : IsRow .u8 w a0 len0 cap0 z0) (w1 : IsRow .u32 w a1 len1 cap1 z1) (w2 : (Lit.int .u8 a2).wf = true) (w4 : IsRow .u8 w a4 len4 cap4 z4) (w5 : (Lit.int .i64 a5).wf = true) :
    Calls Trym.prog 3 #[.slice a0 len0 cap0, .slice a1 len1 cap1, .int .u8 a2, .bool a3, .slice a4 len4 cap4, .int .i64 a5] w fun e w' => e = .returned (.bool true) ∧ Below w.heap.size w w' := by
  obtain ⟨t0, m0, f0, c0⟩ := row_cells w0
  obtain ⟨t1, m1, f1, c1⟩ := row_cells w1
  obtain ⟨t4, m4, f4, c4⟩ := row_cells w4
  by_cases h : (4096 < len0 ∨ 4096 < len1 ∨ 65536 < len4) ∨ (¬ len0 = len1 ∨ len0 = 0)
  · exact early a0 len0 cap0 a1 len1 cap1 a2 a3 a4 len4 cap4 a5 w m0 m1 m4 h
  · obtain ⟨hn, hn', h4, hlen⟩ := later h
    obtain rfl := hlen
    obtain ⟨b0, off0, hb0, rfl, hc0⟩ := c0 hn
    obtain ⟨b1, off1, hb1, rfl, hc1⟩ := c1 hn
    have hk := take_wf (zs := z0) (hi := 255) len0 (by decide) (fun n hn => bounds_u8 (f0 n hn))
    have hs := take_wf (zs := z1) (hi := 4294967295) len0 (by decide) (fun n hn => bounds_u32 (f1 n hn))
    have ht := take_wf (zs := z4) (hi := 255) len4 (by decide) (fun n hn => bounds_u8 (f4 n hn))
    have hct : ∀ j, j < len4 → ∃ b off, b < w.heap.size ∧ a4 = some ⟨b, off, none⟩ ∧ ∀ j, j < len4 → w.cell? ⟨b, off + j, none⟩ = some (.int .u8 ((z4.take len4).getD j 0)) := fun j hj => c4 (Nat.lt_of_le_of_lt (Nat.zero_le j) hj)
    exact Skip.main_walk b0 off0 b1 off1 len0 cap0 cap1 (z0.take len0) (z1.take len0) a2 a3 a4 len4 cap4 (z4.take len4) a5 w hn hn' t0 t1 t4 h4 hb0 hb1 hc0 hc1 hct hk hs ht (bounds_u8 w2) (bounds_i64 w5)

/-! ### THE ROW's STEP: WRITTEN OUT: LEAVE IT -/
set_option maxRecDepth 100000 in
theorem lifted (os : Os) (started : os.Started) (H : Type) (enc : TypeId × Value → H) :
    ReturnsInHanded {} Trym.checked os 3 .any (Rows.fnSkipZstdBlocksRoundTripSpec.pre6 enc Trym.prog Trym.f3 Rows.fnSkipZstdBlocksRoundTripRow.domain false) (Rows.fnSkipZstdBlocksRoundTripSpec.post enc Trym.prog Trym.f3 false true false false) := by
  refine returnsInHanded_of_change (C := Trym.checked) own started (by kernel_rfl) Trym.func3
    (ChangeSpec.witness6 (enc := enc) (C := Trym.checked) false ⟨#[], #[.slice none 0 0, .slice none 0 0, .int .u8 0, .bool false, .slice none 0 0, .int .i64 0], []⟩ 8 (by kernel_rfl) (by kernel_rfl) (by kernel_rfl) (by kernel_rfl)) ?_
  intro W base args ds gs before hval0 hW hcnd _
  have hval : ∀ (j : Nat) t v, Trym.f3.params[j]? = some t → args[j]? = some v → Value.okWide Trym.prog W .any base t v := hval0
  have hW' := hW
  obtain ⟨p, q, hA0, hV, rfl, hfz, hnd⟩ := hW
  have hA : DataW.TrodAll enc Trym.prog W 0 (fun _ => true) true Trym.f3.params.toList args.toList ds p := hA0
  rw [Trym.params3] at hA hval
  obtain ⟨v0, vs0, d0, ds0, p0, q0, hargs, rfl, rfl, h0, r0⟩ := trodAll_cons hA
  obtain ⟨v1, vs1, d1, ds1, p1, q1, rfl, rfl, rfl, h1, r1⟩ := trodAll_cons r0
  obtain ⟨v2, vs2, d2, ds2, p2, q2, rfl, rfl, rfl, h2, r2⟩ := trodAll_cons r1
  obtain ⟨v3, vs3, d3, ds3, p3, q3, rfl, rfl, rfl, h3, r3⟩ := trodAll_cons r2
  obtain ⟨v4, vs4, d4, ds4, p4, q4, rfl, rfl, rfl, h4, r4⟩ := trodAll_cons r3
  obtain ⟨v5, vs5, d5, ds5, p5, q5, rfl, rfl, rfl, h5, r5⟩ := trodAll_cons r4
  obtain ⟨rfl, rfl, rfl⟩ := trodAll_nil r5
  obtain rfl : args = #[v0, v1, v2, v3, v4, v5] := by cases args; simp_all
  obtain ⟨rfl, rfl⟩ := trodVars_none hV
  obtain ⟨a0, len0, cap0, rfl⟩ := okWide_slice Trym.underlying22 (hval 0 22 v0 rfl rfl)
  have k0 := h0
  have lt0 : ∀ x ∈ p0, x.block < W.heap.size := by obtain ⟨m, hm⟩ := k0; exact DataW.trod_lt m _ _ _ hm
  obtain ⟨z0, w0⟩ : ∃ zs, IsRow .u8 W a0 len0 cap0 zs := by
    obtain ⟨fuel, hf⟩ := h0
    rcases open_ints Trym.underlying22 Trym.underlying5 (by kernel_rfl) hf with ⟨hcs, _⟩ | ⟨x, l, c, zs, hcs, _, hl, hm, hz, _, hcell, hwz⟩
    · simp [Value.cells] at hcs
      obtain ⟨rfl, rfl, rfl⟩ := hcs
      exact ⟨[], .inl ⟨rfl, rfl, rfl, rfl⟩⟩
    · simp [Value.cells] at hcs
      obtain ⟨rfl, rfl, rfl⟩ := hcs
      exact ⟨zs, .inr ⟨_, rfl, hl, hm, by simpa using hz, hcell, hwz⟩⟩
  obtain ⟨a1, len1, cap1, rfl⟩ := okWide_slice Trym.underlying23 (hval 1 23 v1 rfl rfl)
  have k1 := h1
  have lt1 : ∀ x ∈ p1, x.block < W.heap.size := by obtain ⟨m, hm⟩ := k1; exact DataW.trod_lt m _ _ _ hm
  obtain ⟨z1, w1⟩ : ∃ zs, IsRow .u32 W a1 len1 cap1 zs := by
    obtain ⟨fuel, hf⟩ := h1
    rcases open_ints Trym.underlying23 Trym.underlying25 (by kernel_rfl) hf with ⟨hcs, _⟩ | ⟨x, l, c, zs, hcs, _, hl, hm, hz, _, hcell, hwz⟩
    · simp [Value.cells] at hcs
      obtain ⟨rfl, rfl, rfl⟩ := hcs
      exact ⟨[], .inl ⟨rfl, rfl, rfl, rfl⟩⟩
    · simp [Value.cells] at hcs
      obtain ⟨rfl, rfl, rfl⟩ := hcs
      exact ⟨zs, .inr ⟨_, rfl, hl, hm, by simpa using hz, hcell, hwz⟩⟩
  obtain ⟨a2, rfl, rfl, rfl, w2⟩ := open_int Trym.underlying5 (hval 2 5 v2 rfl rfl) h2
  obtain ⟨a3, rfl, rfl, rfl⟩ := open_bool Trym.underlying4 (hval 3 4 v3 rfl rfl) h3
  obtain ⟨a4, len4, cap4, rfl⟩ := okWide_slice Trym.underlying22 (hval 4 22 v4 rfl rfl)
  have k4 := h4
  have lt4 : ∀ x ∈ p4, x.block < W.heap.size := by obtain ⟨m, hm⟩ := k4; exact DataW.trod_lt m _ _ _ hm
  obtain ⟨z4, w4⟩ : ∃ zs, IsRow .u8 W a4 len4 cap4 zs := by
    obtain ⟨fuel, hf⟩ := h4
    rcases open_ints Trym.underlying22 Trym.underlying5 (by kernel_rfl) hf with ⟨hcs, _⟩ | ⟨x, l, c, zs, hcs, _, hl, hm, hz, _, hcell, hwz⟩
    · simp [Value.cells] at hcs
      obtain ⟨rfl, rfl, rfl⟩ := hcs
      exact ⟨[], .inl ⟨rfl, rfl, rfl, rfl⟩⟩
    · simp [Value.cells] at hcs
      obtain ⟨rfl, rfl, rfl⟩ := hcs
      exact ⟨zs, .inr ⟨_, rfl, hl, hm, by simpa using hz, hcell, hwz⟩⟩
  obtain ⟨a5, rfl, rfl, rfl, w5⟩ := open_int Trym.underlying3 (hval 5 3 v5 rfl rfl) h5
  clear hA0 hval0
  refine (walk a0 len0 cap0 z0 a1 len1 cap1 z1 a2 a3 a4 len4 cap4 z4 a5 W w0 w1 w2 w4 w5).mono fun e W' ⟨he, bel⟩ => ?_
  subst he
  exact ⟨_, rfl, _, _, _, [], _, [], hW', trodAll_mk1 (shut_bool Trym.underlying4 _), (trodAll_cons_mk (Below.trod laidOut (by kernel_rfl) (of_decide_eq_true (by kernel_rfl)) k0 bel lt0) (trodAll_cons_mk (Below.trod laidOut (by kernel_rfl) (of_decide_eq_true (by kernel_rfl)) k1 bel lt1) (trodAll_cons_mk (shut_int Trym.underlying5 w2) (trodAll_cons_mk (shut_bool Trym.underlying4 _) (trodAll_cons_mk (Below.trod laidOut (by kernel_rfl) (of_decide_eq_true (by kernel_rfl)) k4 bel lt4) (trodAll_cons_mk (shut_int Trym.underlying3 w5) trodAll_mk0)))))), rfl, bel.frame _, fun h => by cases h⟩

theorem over : Rows.fnSkipZstdBlocksRoundTripRow.holds Trym.pinned (OpenSpec.ofChange Rows.fnSkipZstdBlocksRoundTripSpec) :=
  OpenClaim.holds_of_wide 3 Trym.f3 rfl rfl rfl rfl rfl rfl rfl ⟨rfl, rfl, rfl, rfl, rfl⟩ rfl rfl rfl rfl rfl (by kernel_rfl) Trym.func3 (by kernel_rfl)
    (of_decide_eq_true (by kernel_rfl)) (by unfold Func.isWrapper; first | (rw [if_pos (by decide +kernel)]; kernel_rfl) | (rw [if_neg (by decide +kernel)]; exact ⟨rfl, rfl⟩))
    (fun os started H enc _ => lifted os started H enc)

/-- ████ THE STATEMENT ████ -/
theorem proved : Rows.FnSkipZstdBlocksRoundTripSaid := over
#print axioms proved
end Go.Proofs.Qxb6605493aMods.fnSkipZstdBlocksRoundTrip
