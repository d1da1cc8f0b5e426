/-
  A PROOF OF 'Rows.FnDeliveriesTopIsTheEarliestOfTheLeastSaid'. The walks are typed by hand; the row's step is the guide's own way (as its shells for slices have it) at this function's number and types.
-/
import Derived.Test.Qxb6609212aModsTop
import Derived.WalkKit
import Derived.ProofKit
import Derived.OpenShut
import Derived.ChangeOld
import Derived.Below
namespace Go.Proofs.Qxb6609212aMods.fnDeliveriesTopIsTheEarliestOfTheLeast
open Go.ChangeShapes Go.WideShapes Go.ChangeAt Go.RowKit
open Go.Proofs.Qxb6609212aMods.Env
set_option linter.unusedVariables false

theorem own : ownKnob Trym.prog.godebug = none := by kernel_rfl
theorem laidOut : laidOutB Trym.prog = true := by kernel_rfl

/-- Too long: it returns at once. -/
theorem early (a0 : Option Addr) (len0 cap0 : Nat) (w : World) (m0 : len0 ≤ maxLen) (h : 16384 < len0) :
    Calls Trym.prog 4 #[.slice a0 len0 cap0] w fun e w' => e = .returned (.bool true) ∧ Below w.heap.size w w' := by
  have HB : Hid (Calls Trym.prog 13 _ w _) := bytes13 a0 len0 cap0 w m0
  unfold maxLen at m0
  go_enter Trym.func4, Trym.ntmps4
  go_wp2_with fail
  refine HB.out.mono ?_
  rintro e w' ⟨⟨ok, rfl⟩, rfl⟩
  cases ok <;> (go_wp2; go_ret; exact ⟨rfl, Below.refl _ _⟩)

/-- Nothing is pushed. -/
theorem empty (a0 : Option Addr) (cap0 : Nat) (w : World) :
    Calls Trym.prog 4 #[.slice a0 0 cap0] w fun e w' => e = .returned (.bool true) ∧ Below w.heap.size w w' := by
  have HB : Hid (Calls Trym.prog 13 _ w _) := bytes13 a0 0 cap0 w (Nat.zero_le _)
  go_enter Trym.func4, Trym.ntmps4
  go_wp2_with fail
  refine HB.out.mono ?_
  rintro e w' ⟨⟨ok, rfl⟩, hw⟩
  obtain rfl : w = w' := hw.symm
  cases ok with
  | false => go_wp2; go_ret; exact ⟨rfl, Below.refl _ _⟩
  | true =>
    go_wp2_with fail
    refine (hnew_any w).mono ?_
    rintro e w1 ⟨rfl, hq1, hb1⟩
    have H1 : Hid (Below w.heap.size w w1) := hb1
    clear hq1 hb1
    go_wp2
    refine wp_loop_rounds 1 ?_
    rw [rounds_succ]
    go_wp2
    go_ret
    exact ⟨rfl, H1.out⟩

theorem walk (a0 : Option Addr) (len0 cap0 : Nat) (es : List E) (w : World) (h : IsEnvs w a0 len0 es) :
    Calls Trym.prog 4 #[.slice a0 len0 cap0] w fun e w' => e = .returned (.bool true) ∧ Below w.heap.size w w' := by
  obtain ⟨h1, h2, h3, h4⟩ := h
  by_cases hl : 16384 < len0
  · exact early a0 len0 cap0 w h2 hl
  by_cases h0 : len0 = 0
  · subst h0; exact empty a0 cap0 w
  have hp : 0 < len0 := Nat.pos_of_ne_zero h0
  obtain ⟨b, off, hb, rfl, hc⟩ := h4 hp
  exact top_main b off len0 cap0 es w h1 hp (Nat.le_of_not_lt hl) hb hc

/-! ### The row's step -/
set_option maxRecDepth 100000 in
theorem lifted (os : Os) (started : os.Started) (H : Type) (enc : TypeId × Value → H) :
    ReturnsInHanded {} Trym.checked os 4 .any (Rows.fnDeliveriesTopIsTheEarliestOfTheLeastSpec.pre6 enc Trym.prog Trym.f4 Rows.fnDeliveriesTopIsTheEarliestOfTheLeastRow.domain false) (Rows.fnDeliveriesTopIsTheEarliestOfTheLeastSpec.post enc Trym.prog Trym.f4 false true false false) := by
  refine returnsInHanded_of_change (C := Trym.checked) own started (by kernel_rfl) Trym.func4
    (ChangeSpec.witness6 (enc := enc) (C := Trym.checked) false ⟨#[], #[.slice none 0 0], []⟩ 8 (by kernel_rfl) (by kernel_rfl) (by kernel_rfl) (by kernel_rfl)) ?_
  intro W base args ds gs before hval0 hW hcnd _
  have hval : ∀ (j : Nat) t v, Trym.f4.params[j]? = some t → args[j]? = some v → Value.okWide Trym.prog W .any base t v := hval0
  have hW' := hW
  obtain ⟨p, q, hA0, hV, rfl, hfz, hnd⟩ := hW
  have hA : DataW.TrodAll enc Trym.prog W 0 (fun _ => true) true Trym.f4.params.toList args.toList ds p := hA0
  rw [Trym.params4] at hA hval
  obtain ⟨v0, vs0, d0, ds0, p0, q0, hargs, rfl, rfl, h0, r0⟩ := trodAll_cons hA
  obtain ⟨rfl, rfl, rfl⟩ := trodAll_nil r0
  obtain rfl : args = #[v0] := by cases args; simp_all
  obtain ⟨rfl, rfl⟩ := trodVars_none hV
  obtain ⟨a0, len0, cap0, rfl⟩ := okWide_slice Trym.underlying22 (hval 0 22 v0 rfl rfl)
  have k0 := h0
  have lt0 : ∀ x ∈ p0, x.block < W.heap.size := by obtain ⟨m, hm⟩ := k0; exact DataW.trod_lt m _ _ _ hm
  obtain ⟨es, w0⟩ : ∃ es, IsEnvs W a0 len0 es := by
    obtain ⟨fuel, hf⟩ := h0
    exact open_envs (by simpa [Value.cells] using hf)
  clear hA0 hval0
  refine (walk a0 len0 cap0 es W w0).mono fun e W' ⟨he, bel⟩ => ?_
  subst he
  exact ⟨_, rfl, _, _, _, [], _, [], hW', trodAll_mk1 (shut_bool Trym.underlying4 _), (trodAll_cons_mk (Below.trod laidOut (by kernel_rfl) (of_decide_eq_true (by kernel_rfl)) k0 bel lt0) trodAll_mk0), rfl, bel.frame _, fun h => by cases h⟩

theorem over : Rows.fnDeliveriesTopIsTheEarliestOfTheLeastRow.holds Trym.pinned (OpenSpec.ofChange Rows.fnDeliveriesTopIsTheEarliestOfTheLeastSpec) :=
  OpenClaim.holds_of_wide 4 Trym.f4 rfl rfl rfl rfl rfl rfl rfl ⟨rfl, rfl, rfl, rfl, rfl⟩ rfl rfl rfl rfl rfl (by kernel_rfl) Trym.func4 (by kernel_rfl)
    (of_decide_eq_true (by kernel_rfl)) (by unfold Func.isWrapper; first | (rw [if_pos (by decide +kernel)]; kernel_rfl) | (rw [if_neg (by decide +kernel)]; exact ⟨rfl, rfl⟩))
    (fun os started H enc _ => lifted os started H enc)

/-- THE STATEMENT -/
theorem proved : Rows.FnDeliveriesTopIsTheEarliestOfTheLeastSaid := over
#print axioms proved
end Go.Proofs.Qxb6609212aMods.fnDeliveriesTopIsTheEarliestOfTheLeast
