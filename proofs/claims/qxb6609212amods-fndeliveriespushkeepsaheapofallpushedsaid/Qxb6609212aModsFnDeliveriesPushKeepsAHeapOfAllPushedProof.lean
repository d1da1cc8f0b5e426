/-
  A PROOF OF 'Rows.FnDeliveriesPushKeepsAHeapOfAllPushedSaid'. The walks are typed by hand; the row's step is the guide's own way (as its shells for slices have it) at this function's number and types.
-/
import Derived.Test.Qxb6609212aModsAll
import Derived.WalkKit
import Derived.ProofKit
import Derived.OpenShut
import Derived.ChangeOld
import Derived.Below
namespace Go.Proofs.Qxb6609212aMods.fnDeliveriesPushKeepsAHeapOfAllPushed
open Go.ChangeShapes Go.WideShapes Go.ChangeAt Go.RowKit
open Go.Proofs.Qxb6609212aMods.Env
set_option linter.unusedVariables false

theorem own : ownKnob Trym.prog.godebug = none := by kernel_rfl
theorem laidOut : laidOutB Trym.prog = true := by kernel_rfl

/-- Too long: it returns at once. -/
theorem early (a0 : Option Addr) (len0 cap0 : Nat) (w : World) (m0 : len0 ≤ maxLen) (h : 4096 < len0) :
    Calls Trym.prog 3 #[.slice a0 len0 cap0] w fun e w' => e = .returned (.bool true) ∧ Below w.heap.size w w' := by
  have HB : Hid (Calls Trym.prog 6 _ w _) := bytes6 a0 len0 cap0 w m0
  unfold maxLen at m0
  go_enter Trym.func3, Trym.ntmps3
  go_wp2_with fail
  refine HB.out.mono ?_
  rintro e w' ⟨⟨ok, rfl⟩, rfl⟩
  cases ok <;> (go_wp2; go_ret; exact ⟨rfl, Below.refl _ _⟩)

/-- A sorted copy of nothing. -/
theorem sorted_zero (a0 : Option Addr) (cap0 : Nat) (w : World) :
    Calls Trym.prog 20 #[.slice a0 0 cap0] w fun e w' => e = .returned (.slice (some ⟨w.heap.size, 0, none⟩) 0 0) ∧ Below w.heap.size w w' := by
  obtain ⟨i29, hi, hz0, hz1, hz2⟩ := info_parts Trym.info29
  go_enter Trym.func20, Trym.ntmps20
  go_wp2_with (first | (at_make; refine wpList_make_full _ rfl _ _ 22 rfl w.heap.size 29 i29 (.agg #[.int .u64 0, .int .u64 0, .int .u64 0, .int .i64 0, .int .i64 0]) 5 Trym.underlying22 hi hz0 hz1 _ _ _ _ 0 rfl rfl rfl rfl ?_ ?_ ?_ ?_))
  · rw [hz2]; omega
  · unfold maxLen; omega
  · exact Nat.le_refl _
  intro w1 ho1 hg1
  have H1 : Hid (Below w.heap.size w w1) := (Below.refl _ _).grown hg1 (Nat.le_refl _) (by intro k h; cases h)
  clear ho1 hg1 hi hz0 hz1 hz2
  go_wp2
  refine wp_loop_rounds 1 ?_
  rw [rounds_succ]
  go_wp2
  refine wp_loop_rounds 1 ?_
  rw [rounds_succ]
  go_wp2
  go_ret
  exact ⟨rfl, H1.out⟩

theorem same_zero (a0 a1 : Option Addr) (cap0 cap1 : Nat) (w : World) :
    Calls Trym.prog 12 #[.slice a0 0 cap0, .slice a1 0 cap1] w fun e w' => e = .returned (.bool true) ∧ Below w.heap.size w w' := by
  go_enter Trym.func12, Trym.ntmps12
  go_wp2_with fail
  refine (sorted_zero a0 cap0 w).mono ?_
  rintro e w1 ⟨rfl, hb1⟩
  have H1 : Hid (Below w.heap.size w w1) := hb1
  clear hb1
  go_wp2_with fail
  refine (sorted_zero a1 cap1 w1).mono ?_
  rintro e w2 ⟨rfl, hb2⟩
  have H2 : Hid (Below w.heap.size w w2) := H1.out.trans (hb2.mono H1.out.size)
  clear hb2
  go_wp2
  refine wp_loop_rounds 1 ?_
  rw [rounds_succ]
  go_wp2
  go_ret
  exact ⟨rfl, H2.out⟩

/-- Nothing is pushed. -/
theorem empty (a0 : Option Addr) (cap0 : Nat) (w : World) :
    Calls Trym.prog 3 #[.slice a0 0 cap0] w fun e w' => e = .returned (.bool true) ∧ Below w.heap.size w w' := by
  have HB : Hid (Calls Trym.prog 6 _ w _) := bytes6 a0 0 cap0 w (Nat.zero_le _)
  obtain ⟨i29, hi, hz0, hz1, hz2⟩ := info_parts Trym.info29
  go_enter Trym.func3, Trym.ntmps3
  go_wp2_with fail
  refine HB.out.mono ?_
  clear HB
  rintro e w' ⟨⟨ok, rfl⟩, hw⟩
  obtain rfl : w = w' := hw.symm
  cases ok with
  | false => go_wp2; go_ret; exact ⟨rfl, Below.refl _ _⟩
  | true =>
    go_wp2_with fail
    refine (hnew_any w).mono ?_
    rintro e w1 ⟨rfl, hq1, hb1⟩
    have H1 : Hid (Below w.heap.size w w1) := hb1
    have HL : Hid (Calls Trym.prog 9 _ w1 _) := hlen_any _ _ [] w1 hq1
    clear hq1 hb1
    go_wp2
    refine wp_loop_rounds 1 ?_
    rw [rounds_succ]
    go_wp2_with fail
    refine HL.out.mono ?_
    clear HL
    rintro e w' ⟨rfl, hw'⟩
    obtain rfl : w1 = w' := hw'.symm
    go_wp2_with (first | (at_make; refine wpList_make_full _ rfl _ _ 22 rfl w1.heap.size 29 i29 (.agg #[.int .u64 0, .int .u64 0, .int .u64 0, .int .i64 0, .int .i64 0]) 5 Trym.underlying22 hi hz0 hz1 _ _ _ _ 0 rfl rfl rfl rfl ?_ ?_ ?_ ?_))
    · rw [hz2]; omega
    · unfold maxLen; omega
    · exact Nat.le_refl _
    intro w2 ho2 hg2
    have H2 : Hid (Below w.heap.size w w2) := H1.out.trans (Below.mono (B := w1.heap.size) ((Below.refl _ _).grown hg2 (Nat.le_refl _) (by intro k h; cases h)) H1.out.size)
    clear ho2 hg2 hi hz0 hz1 hz2
    go_wp2
    refine wp_loop_rounds 1 ?_
    rw [rounds_succ]
    go_wp2
    refine wp_loop_rounds 1 ?_
    rw [rounds_succ]
    go_wp2_with fail
    refine (same_zero _ a0 0 cap0 w2).mono ?_
    rintro e w3 ⟨rfl, hb3⟩
    have H3 : Hid (Below w.heap.size w w3) := H2.out.trans (hb3.mono H2.out.size)
    clear hb3
    go_wp2
    go_ret
    exact ⟨rfl, H3.out⟩

theorem walk (a0 : Option Addr) (len0 cap0 : Nat) (es : List E) (w : World) (h : IsEnvs w a0 len0 es) :
    Calls Trym.prog 3 #[.slice a0 len0 cap0] w fun e w' => e = .returned (.bool true) ∧ Below w.heap.size w w' := by
  obtain ⟨h1, h2, h3, h4⟩ := h
  by_cases hl : 4096 < len0
  · exact early a0 len0 cap0 w h2 hl
  by_cases h0 : len0 = 0
  · subst h0; exact empty a0 cap0 w
  have hp : 0 < len0 := Nat.pos_of_ne_zero h0
  obtain ⟨b, off, hb, rfl, hc⟩ := h4 hp
  exact all_main b off len0 cap0 es w h1 hp (Nat.le_of_not_lt hl) hb hc

/-! ### The row's step -/
set_option maxRecDepth 100000 in
theorem lifted (os : Os) (started : os.Started) (H : Type) (enc : TypeId × Value → H) :
    ReturnsInHanded {} Trym.checked os 3 .any (Rows.fnDeliveriesPushKeepsAHeapOfAllPushedSpec.pre6 enc Trym.prog Trym.f3 Rows.fnDeliveriesPushKeepsAHeapOfAllPushedRow.domain false) (Rows.fnDeliveriesPushKeepsAHeapOfAllPushedSpec.post enc Trym.prog Trym.f3 false true false false) := by
  refine returnsInHanded_of_change (C := Trym.checked) own started (by kernel_rfl) Trym.func3
    (ChangeSpec.witness6 (enc := enc) (C := Trym.checked) false ⟨#[], #[.slice none 0 0], []⟩ 8 (by kernel_rfl) (by kernel_rfl) (by kernel_rfl) (by kernel_rfl)) ?_
  intro W base args ds gs before hval0 hW hcnd _
  have hval : ∀ (j : Nat) t v, Trym.f3.params[j]? = some t → args[j]? = some v → Value.okWide Trym.prog W .any base t v := hval0
  have hW' := hW
  obtain ⟨p, q, hA0, hV, rfl, hfz, hnd⟩ := hW
  have hA : DataW.TrodAll enc Trym.prog W 0 (fun _ => true) true Trym.f3.params.toList args.toList ds p := hA0
  rw [Trym.params3] at hA hval
  obtain ⟨v0, vs0, d0, ds0, p0, q0, hargs, rfl, rfl, h0, r0⟩ := trodAll_cons hA
  obtain ⟨rfl, rfl, rfl⟩ := trodAll_nil r0
  obtain rfl : args = #[v0] := by cases args; simp_all
  obtain ⟨rfl, rfl⟩ := trodVars_none hV
  obtain ⟨a0, len0, cap0, rfl⟩ := okWide_slice Trym.underlying22 (hval 0 22 v0 rfl rfl)
  have k0 := h0
  have lt0 : ∀ x ∈ p0, x.block < W.heap.size := by obtain ⟨m, hm⟩ := k0; exact DataW.trod_lt m _ _ _ hm
  obtain ⟨es, w0⟩ : ∃ es, IsEnvs W a0 len0 es := by
    obtain ⟨fuel, hf⟩ := h0
    exact open_envs (by simpa [Value.cells] using hf)
  clear hA0 hval0
  refine (walk a0 len0 cap0 es W w0).mono fun e W' ⟨he, bel⟩ => ?_
  subst he
  exact ⟨_, rfl, _, _, _, [], _, [], hW', trodAll_mk1 (shut_bool Trym.underlying4 _), (trodAll_cons_mk (Below.trod laidOut (by kernel_rfl) (of_decide_eq_true (by kernel_rfl)) k0 bel lt0) trodAll_mk0), rfl, bel.frame _, fun h => by cases h⟩

theorem over : Rows.fnDeliveriesPushKeepsAHeapOfAllPushedRow.holds Trym.pinned (OpenSpec.ofChange Rows.fnDeliveriesPushKeepsAHeapOfAllPushedSpec) :=
  OpenClaim.holds_of_wide 3 Trym.f3 rfl rfl rfl rfl rfl rfl rfl ⟨rfl, rfl, rfl, rfl, rfl⟩ rfl rfl rfl rfl rfl (by kernel_rfl) Trym.func3 (by kernel_rfl)
    (of_decide_eq_true (by kernel_rfl)) (by unfold Func.isWrapper; first | (rw [if_pos (by decide +kernel)]; kernel_rfl) | (rw [if_neg (by decide +kernel)]; exact ⟨rfl, rfl⟩))
    (fun os started H enc _ => lifted os started H enc)

/-- THE STATEMENT -/
theorem proved : Rows.FnDeliveriesPushKeepsAHeapOfAllPushedSaid := over
#print axioms proved
end Go.Proofs.Qxb6609212aMods.fnDeliveriesPushKeepsAHeapOfAllPushed
