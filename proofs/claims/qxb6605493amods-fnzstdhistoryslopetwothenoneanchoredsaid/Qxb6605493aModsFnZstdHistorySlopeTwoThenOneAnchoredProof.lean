/-
  A PROOF OF 'Rows.FnZstdHistorySlopeTwoThenOneAnchoredSaid' ('example.com/mirrorwake/mirrorwake/zzlaws_internal_recordbatch_b1.FnZstdHistorySlopeTwoThenOneAnchored'), WRITTEN BY PROGRAM (proof-skeleton.mjs) off the guide's own print for that function. Not trusted: Lean checks it.
  The walks are typed by hand; all else is the guide's template at this function's number and types.
-/
import Derived.Test.Qxb6605493aModsRows
import Derived.WalkKit
import Derived.ProofKit
import Derived.OpenShut
import Derived.ShutString
namespace Go.Proofs.Qxb6605493aMods.fnZstdHistorySlopeTwoThenOneAnchored
open Go.ChangeShapes Go.WideShapes Go.ChangeAt Go.RowKit
open Go.ChangeMaps (open_string shut_string)
set_option linter.unusedVariables false      -- a walk need not use every 'w<i>' (that an integer argument fits its kind)

theorem own : ownKnob Trym.prog.godebug = none := by kernel_rfl

theorem ret_true {b : Bool} (h : b = true) : Ending.returned (.bool b) = .returned (.bool true) := by rw [h]

/-! ### STEP 1: THE WALK, in parts: one theorem a way through the tests. -/
theorem walk_low (a0 a1 : Int) (w : World) (d1 : 0 ≤ a0) (d2 : 0 ≤ a1) (h5 : a0 + a1 < 2097152) (h6 : 1048576 < a0) :
    Calls Trym.prog 4 #[.int .i64 a0, .int .i64 a1] w fun e w' => e = .returned (.bool true) ∧ Grown w w' := by
  have d3 : a0 + a1 ≤ 9223372036853727231 := by omega
  go_enter Trym.func4, Trym.ntmps4
  go_wp2
  go_ret
  exact ⟨ret_true (by simp; omega), Grown.refl _⟩

theorem walk_least (a0 a1 : Int) (w : World) (d1 : 0 ≤ a0) (d2 : 0 ≤ a1) (h5 : a0 + a1 < 2097152) (h6 : ¬ 1048576 < a0) :
    Calls Trym.prog 4 #[.int .i64 a0, .int .i64 a1] w fun e w' => e = .returned (.bool true) ∧ Grown w w' := by
  have d3 : a0 + a1 ≤ 9223372036853727231 := by omega
  go_enter Trym.func4, Trym.ntmps4
  go_wp2
  go_ret
  exact ⟨ret_true (by simp; omega), Grown.refl _⟩

theorem walk_high (a0 a1 : Int) (w : World) (d2 : 0 ≤ a1) (d3 : a0 + a1 ≤ 9223372036853727231) (h7 : 2097152 ≤ a0) :
    Calls Trym.prog 4 #[.int .i64 a0, .int .i64 a1] w fun e w' => e = .returned (.bool true) ∧ Grown w w' := by
  go_enter Trym.func4, Trym.ntmps4
  go_wp2
  go_ret
  exact ⟨ret_true (by simp; omega), Grown.refl _⟩

theorem walk_over (a0 a1 : Int) (w : World) (d1 : 0 ≤ a0) (d2 : 0 ≤ a1) (d3 : a0 + a1 ≤ 9223372036853727231) (h5 : 2097152 ≤ a0 + a1) (h7 : a0 < 2097152) (h6 : 1048576 < a0) :
    Calls Trym.prog 4 #[.int .i64 a0, .int .i64 a1] w fun e w' => e = .returned (.bool true) ∧ Grown w w' := by
  have h8 : a0 + a1 + 1048576 - 2 * a0 - a1 < a1 := by omega
  have h9 : -1048576 < a0 + a1 + 1048576 - 2 * a0 - a1 := by omega
  go_enter Trym.func4, Trym.ntmps4
  go_wp2
  go_ret
  exact ⟨rfl, Grown.refl _⟩

theorem walk_across (a0 a1 : Int) (w : World) (d1 : 0 ≤ a0) (d2 : 0 ≤ a1) (d3 : a0 + a1 ≤ 9223372036853727231) (h5 : 2097152 ≤ a0 + a1) (h7 : a0 < 2097152) (h6 : ¬ 1048576 < a0) :
    Calls Trym.prog 4 #[.int .i64 a0, .int .i64 a1] w fun e w' => e = .returned (.bool true) ∧ Grown w w' := by
  have h8 : a0 + a1 + 1048576 - 2 * a0 - a1 < a1 := by omega
  have h9 : -1048576 < a0 + a1 + 1048576 - 2 * a0 - a1 := by omega
  go_enter Trym.func4, Trym.ntmps4
  go_wp2
  go_ret
  exact ⟨rfl, Grown.refl _⟩

theorem walk (a0 : Int) (a1 : Int) (w0 : (Lit.int .i64 a0).wf = true) (w1 : (Lit.int .i64 a1).wf = true) (w : World) :
    Calls Trym.prog 4 #[.int .i64 a0, .int .i64 a1] w fun e w' => e = .returned (.bool true) ∧ Grown w w' := by
  have c0 := bounds_i64 w0
  have c1 := bounds_i64 w1
  by_cases h1 : a0 < 0
  · go_enter Trym.func4, Trym.ntmps4
    go_wp2
    go_ret
    exact ⟨rfl, Grown.refl _⟩
  by_cases h2 : a1 < 0
  · go_enter Trym.func4, Trym.ntmps4
    go_wp2
    go_ret
    exact ⟨rfl, Grown.refl _⟩
  by_cases h3 : 9223372036853727231 < a0
  · go_enter Trym.func4, Trym.ntmps4
    go_wp2
    go_ret
    exact ⟨rfl, Grown.refl _⟩
  by_cases h4 : 9223372036853727231 - a0 < a1
  · go_enter Trym.func4, Trym.ntmps4
    go_wp2
    go_ret
    exact ⟨rfl, Grown.refl _⟩
  by_cases h5 : a0 + a1 < 2097152
  · by_cases h6 : 1048576 < a0
    · exact walk_low a0 a1 w (by omega) (by omega) h5 h6
    · exact walk_least a0 a1 w (by omega) (by omega) h5 h6
  by_cases h7 : 2097152 ≤ a0
  · exact walk_high a0 a1 w (by omega) (by omega) h7
  by_cases h6 : 1048576 < a0
  · exact walk_over a0 a1 w (by omega) (by omega) (by omega) (by omega) (by omega) h6
  · exact walk_across a0 a1 w (by omega) (by omega) (by omega) (by omega) (by omega) h6

/-! ### THE ROW's STEP: WRITTEN OUT: LEAVE IT -/
set_option maxRecDepth 100000 in
theorem lifted (os : Os) (started : os.Started) (H : Type) (enc : TypeId × Value → H) :
    ReturnsInHanded {} Trym.checked os 4 .any (Rows.fnZstdHistorySlopeTwoThenOneAnchoredSpec.pre6 enc Trym.prog Trym.f4 Rows.fnZstdHistorySlopeTwoThenOneAnchoredRow.domain false) (Rows.fnZstdHistorySlopeTwoThenOneAnchoredSpec.post enc Trym.prog Trym.f4 false true false false) := by
  refine returnsInHanded_of_change (C := Trym.checked) own started (by kernel_rfl) Trym.func4
    (ChangeSpec.witness6 (enc := enc) (C := Trym.checked) false ⟨#[], #[.int .i64 0, .int .i64 0], []⟩ 8 (by kernel_rfl) (by kernel_rfl) (by kernel_rfl) (by kernel_rfl)) ?_
  intro W base args ds gs before hval0 hW hcnd _
  have hval : ∀ (j : Nat) t v, Trym.f4.params[j]? = some t → args[j]? = some v → Value.okWide Trym.prog W .any base t v := hval0
  have hW' := hW
  obtain ⟨p, q, hA0, hV, rfl, hfz, hnd⟩ := hW
  have hA : DataW.TrodAll enc Trym.prog W 0 (fun _ => true) true Trym.f4.params.toList args.toList ds p := hA0
  rw [Trym.params4] at hA hval
  obtain ⟨v0, vs0, d0, ds0, p0, q0, hargs, rfl, rfl, h0, r0⟩ := trodAll_cons hA
  obtain ⟨v1, vs1, d1, ds1, p1, q1, rfl, rfl, rfl, h1, r1⟩ := trodAll_cons r0
  obtain ⟨rfl, rfl, rfl⟩ := trodAll_nil r1
  obtain rfl : args = #[v0, v1] := by cases args; simp_all
  obtain ⟨rfl, rfl⟩ := trodVars_none hV
  obtain ⟨a0, rfl, rfl, rfl, w0⟩ := open_int Trym.underlying2 (hval 0 2 v0 rfl rfl) h0
  obtain ⟨a1, rfl, rfl, rfl, w1⟩ := open_int Trym.underlying2 (hval 1 2 v1 rfl rfl) h1
  clear hA0 hval0
  simp only [List.append_nil] at hW'
  refine (walk a0 a1 w0 w1 W).mono fun e W' ⟨he, hg⟩ => ?_
  subst he
  exact ⟨_, rfl, post_of_same (pa := []) (pv := []) hW' (fun _ _ _ => (trodAll_cons_mk (shut_bool Trym.underlying4 _) trodAll_mk0)) (fun sp _ => (trodAll_cons_mk (shut_int Trym.underlying2 w0) (trodAll_cons_mk (shut_int Trym.underlying2 w1) trodAll_mk0))) (fun _ _ => rfl) rfl
    (hg.frame _) hg.2.1 (ok_one (by kernel_rfl) rfl (okWide_bool_mk Trym.underlying4 _))⟩

theorem over : Rows.fnZstdHistorySlopeTwoThenOneAnchoredRow.holds Trym.pinned (OpenSpec.ofChange Rows.fnZstdHistorySlopeTwoThenOneAnchoredSpec) :=
  OpenClaim.holds_of_wide 4 Trym.f4 rfl rfl rfl rfl rfl rfl rfl ⟨rfl, rfl, rfl, rfl, rfl⟩ rfl rfl rfl rfl rfl (by kernel_rfl) Trym.func4 (by kernel_rfl)
    (of_decide_eq_true (by kernel_rfl)) (by unfold Func.isWrapper; first | (rw [if_pos (by decide +kernel)]; kernel_rfl) | (rw [if_neg (by decide +kernel)]; exact ⟨rfl, rfl⟩))
    (fun os started H enc _ => lifted os started H enc)

/-- ████ THE STATEMENT ████ -/
theorem proved : Rows.FnZstdHistorySlopeTwoThenOneAnchoredSaid :=
  over
#print axioms proved
end Go.Proofs.Qxb6605493aMods.fnZstdHistorySlopeTwoThenOneAnchored
