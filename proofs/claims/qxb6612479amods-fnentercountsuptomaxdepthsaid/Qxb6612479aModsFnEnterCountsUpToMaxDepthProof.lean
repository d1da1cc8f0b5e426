/-
  A PROOF OF 'Rows.FnEnterCountsUpToMaxDepthSaid' ('example.com/harrow/harrow/zzlaws_pkg_document_b1.FnEnterCountsUpToMaxDepth'), WRITTEN BY PROGRAM (proof-skeleton.mjs) off the guide's own print for that function. Not trusted: Lean checks it.
  The walk is typed by hand; all else is the guide's template at this function's number and types ('Below' in the place of 'Grown').
-/
import Derived.Test.Qxb6612479aModsRows
import Derived.WalkKit
import Derived.ProofKit
import Derived.OpenShut
import Derived.ShutString
import Derived.ChangeOld
import Derived.Below
import Derived.Deep.DeepCutAuto
import Derived.BigGuard
namespace Go.Proofs.Qxb6612479aMods.fnEnterCountsUpToMaxDepth
open Go.ChangeShapes Go.WideShapes Go.ChangeAt Go.RowKit
open Go.ChangeMaps (open_string shut_string)
set_option linter.unusedVariables false      -- a walk need not use every 'w<i>' (that an integer argument fits its kind)

theorem own : ownKnob Trym.prog.godebug = none := by kernel_rfl

theorem ret_true {b : Bool} (h : b = true) : Ending.returned (.bool b) = .returned (.bool true) := by rw [h]

/-! ### STEP 1: THE WALK -/
theorem early (a0 a1 : Int) (w : World) (h : a0 < 0 ∨ 100 < a0 ∨ a1 < 0 ∨ 65536 < a1) :
    Calls Trym.prog 3 #[.int .i64 a0, .int .i64 a1] w fun e w' => e = .returned (.bool true) ∧ Below w.heap.size w w' := by
  by_cases h1 : a0 < 0
  · clear h
    go_enter Trym.func3, Trym.ntmps3
    go_wp2
    go_ret
    exact ⟨rfl, Below.refl _ _⟩
  by_cases h2 : 100 < a0
  · clear h
    go_enter Trym.func3, Trym.ntmps3
    go_wp2
    go_ret
    exact ⟨rfl, Below.refl _ _⟩
  by_cases h3 : a1 < 0
  · clear h
    go_enter Trym.func3, Trym.ntmps3
    go_wp2
    go_ret
    exact ⟨rfl, Below.refl _ _⟩
  · have h4 : 65536 < a1 := by omega
    clear h
    go_enter Trym.func3, Trym.ntmps3
    go_wp2
    go_ret
    exact ⟨rfl, Below.refl _ _⟩

theorem new_any (d : Int) (w : World) :
    Calls Trym.prog 5 #[.slice none 0 0, .int .i64 0, .int .i64 0, .int .i64 d] w fun e w' => e = .returned (.pointer (some ⟨w.heap.size, 0, none⟩)) ∧ w' = w.alloc (.cells #[.slice none 0 0, .int .i64 0, .int .i64 0, .slice none 0 0, .int .i64 d, .pointer none, .pointer none] 43) := by
  go_enter Trym.func5, Trym.ntmps5
  go_wp2
  go_ret
  exact ⟨rfl, rfl⟩
theorem enter_yes (R : Nat) (x : Nat) (w : World) (hx : x < 100) (hc : w.cell? ⟨R, 4, none⟩ = some (.int .i64 x)) (hf : w.frozen? ⟨R, 4, none⟩ = false) :
    Calls Trym.prog 6 #[.pointer (some ⟨R, 0, none⟩)] w fun e w' => e = .returned (.bool true) ∧ w' = w.setCell ⟨R, 4, none⟩ (.int .i64 ((x : Int) + 1)) := by
  have hne : ((x : Int) == 100) = false := by simp; omega
  go_enter Trym.func6, Trym.ntmps6
  go_wp2
  go_ret
  exact ⟨rfl, rfl⟩
theorem enter_no (R : Nat) (w : World) (hc : w.cell? ⟨R, 4, none⟩ = some (.int .i64 100)) :
    Calls Trym.prog 6 #[.pointer (some ⟨R, 0, none⟩)] w fun e w' => e = .returned (.bool false) ∧ w' = w := by
  go_enter Trym.func6, Trym.ntmps6
  go_wp2
  go_ret
  exact ⟨rfl, rfl⟩
theorem depth_any (R : Nat) (x : Int) (w : World) (hc : w.cell? ⟨R, 4, none⟩ = some (.int .i64 x)) :
    Calls Trym.prog 7 #[.pointer (some ⟨R, 0, none⟩)] w fun e w' => e = .returned (.int .i64 x) ∧ w' = w := by
  go_enter Trym.func7, Trym.ntmps7
  go_wp2
  go_ret
  exact ⟨rfl, rfl⟩

/-- The reader's depth. -/
def Dep (w0 : World) (R x : Nat) (w : World) : Prop := w.cell? ⟨R, 4, none⟩ = some (.int .i64 x) ∧ w.frozen? ⟨R, 4, none⟩ = false ∧ Below R w0 w
theorem Dep.step {w0 w : World} {R x : Nat} (h : Dep w0 R x w) : Dep w0 R (x + 1) (w.setCell ⟨R, 4, none⟩ (.int .i64 ((x : Int) + 1))) :=
  ⟨by rw [World.cell?_setCell_same _ _ _ h.1]; simp, by rw [World.frozen?_setCell]; exact h.2.1, h.2.2.setCell (Nat.le_refl _) _⟩

set_option maxRecDepth 100000 in
set_option maxHeartbeats 1000000 in
theorem main_walk (d m t : Nat) (w : World) (hd : d + t = 100) (hm : m ≤ 65536) :
    Calls Trym.prog 3 #[.int .i64 d, .int .i64 m] w fun e w' => e = .returned (.bool true) ∧ Below w.heap.size w w' := by
  have HD : Hid (d + t = 100) := hd
  have e1 : decide ((d : Int) < 0) = false := decide_eq_false (by omega)
  have e2 : decide ((100 : Int) < (d : Int)) = false := decide_eq_false (by omega)
  have e3 : decide ((m : Int) < 0) = false := decide_eq_false (by omega)
  have e4 : decide ((65536 : Int) < (m : Int)) = false := decide_eq_false (by omega)
  have hdb : d ≤ 100 := by omega
  have htb : t ≤ 100 := by omega
  have H0 : Hid (Dep w w.heap.size d (w.alloc (.cells #[.slice none 0 0, .int .i64 0, .int .i64 0, .slice none 0 0, .int .i64 d, .pointer none, .pointer none] 43))) :=
    ⟨by rw [cell_of_row _ w.heap.size 4 _ 43 (0, 0) (heap_alloc_new w _)]; rfl, frozen_of_row _ w.heap.size 4 _ 43 (heap_alloc_new w _), (Below.refl _ _).alloc (Nat.le_refl _) _⟩
  clear hd
  go_enter Trym.func3, Trym.ntmps3
  go_wp2_with fail
  refine (new_any d w).mono ?_
  rintro e w1 ⟨rfl, hw1⟩
  have H1 : Hid (Dep w w.heap.size d w1) := by rw [hw1]; exact H0.out
  clear hw1 H0
  obtain ⟨R, hR⟩ : ∃ R, Hid (w.heap.size = R) := ⟨_, rfl⟩
  rw [hR.out] at H1
  rw [hR.out]
  go_wp2
  go_loopg [6, 7, 8] m (fun g s6 s7 s8 wr => ∃ k : Nat, k ≤ m ∧ Hid (k + g = m) ∧ s8 = .int .i64 k ∧ ((k ≤ t ∧ s6 = .int .i64 k ∧ s7 = .bool false ∧ Hid (Dep w R (d + k) wr)) ∨ (t < k ∧ s6 = .int .i64 t ∧ s7 = .bool true ∧ Hid (Dep w R 100 wr))))
  case atStart => exact ⟨0, by omega, Nat.zero_add _, rfl, .inl ⟨by omega, rfl, rfl, H1.out⟩⟩
  case round =>
    obtain ⟨k, hk, hkg, rfl, ⟨hkt, rfl, rfl, HP⟩ | ⟨hkt, rfl, rfl, HP⟩⟩ := hrel
    · clear H1
      by_cases hlt : k < m
      · have hki : (k : Int) < (m : Int) := by omega
        by_cases hk2 : k < t
        · have HE : Hid (Calls Trym.prog 6 _ wr _) := enter_yes R (d + k) wr (by have := HD.out; omega) HP.out.1 HP.out.2.1
          have HS : Hid _ := HP.out.step
          go_wp2_with fail
          refine HE.out.mono ?_
          rintro e w' ⟨rfl, hw'⟩
          have R2 : Hid (Dep w R (d + (k + 1)) w') := by rw [hw', ← Nat.add_assoc]; exact HS.out
          clear hw' HE HS HP
          go_wp2
          go_roundg (m - (k + 1))
          case measure => have := hkg.out; omega
          case rel => exact ⟨k + 1, by omega, (by omega : k + 1 + (m - (k + 1)) = m), by go_num, .inl ⟨by omega, by go_num, rfl, R2⟩⟩
        · have ek : d + k = 100 := by have := HD.out; omega
          rw [ek] at HP
          have HE : Hid (Calls Trym.prog 6 _ wr _) := enter_no R wr HP.out.1
          have HKT : Hid (k = t) := (by omega : k = t)
          clear ek
          go_wp2_with fail
          refine HE.out.mono ?_
          rintro e w' ⟨rfl, hw'⟩
          obtain rfl : wr = w' := hw'.symm
          clear HE hw'
          go_wp2
          go_roundg (m - (k + 1))
          case measure => have := hkg.out; omega
          case rel => exact ⟨k + 1, by omega, (by omega : k + 1 + (m - (k + 1)) = m), by go_num, .inr ⟨by omega, by rw [HKT.out], rfl, HP⟩⟩
      · obtain rfl : k = m := by omega
        have HE : Hid (Calls Trym.prog 7 _ wr _) := depth_any R _ wr HP.out.1
        have HB : Hid (Below R w wr) := HP.out.2.2
        have q1 : ¬ ((100 : Int) - (d : Int) < (k : Int)) := by have := HD.out; omega
        have q2 : (((d + k : Nat) : Int) == (d : Int) + (k : Int)) = true := by simp
        clear HP
        go_wp2_with fail
        refine HE.out.mono ?_
        rintro e w' ⟨rfl, hw'⟩
        obtain rfl : wr = w' := hw'.symm
        clear HE hw'
        go_wp2
        go_ret
        rw [hR.out]
        exact ⟨ret_true (by simp), HB.out⟩
    · clear H1
      by_cases hlt : k < m
      · have hki : (k : Int) < (m : Int) := by omega
        have HE : Hid (Calls Trym.prog 6 _ wr _) := enter_no R wr HP.out.1
        go_wp2_with fail
        refine HE.out.mono ?_
        rintro e w' ⟨rfl, hw'⟩
        obtain rfl : wr = w' := hw'.symm
        clear HE hw'
        go_wp2
        go_roundg (m - (k + 1))
        case measure => have := hkg.out; omega
        case rel => exact ⟨k + 1, by omega, (by omega : k + 1 + (m - (k + 1)) = m), by go_num, .inr ⟨by omega, rfl, rfl, HP⟩⟩
      · obtain rfl : k = m := by omega
        have HE : Hid (Calls Trym.prog 7 _ wr _) := depth_any R _ wr HP.out.1
        have HB : Hid (Below R w wr) := HP.out.2.2
        have q0 : (100 : Int) - (d : Int) = (t : Int) := by have := HD.out; omega
        have q1 : (t : Int) < (k : Int) := by omega
        have q2 : (d : Int) + (t : Int) = 100 := by have := HD.out; omega
        clear HP
        go_wp2_with fail
        refine HE.out.mono ?_
        rintro e w' ⟨rfl, hw'⟩
        obtain rfl : wr = w' := hw'.symm
        clear HE hw'
        go_wp2
        go_ret
        rw [hR.out]
        exact ⟨ret_true (by simp), HB.out⟩

theorem walk (a0 : Int) (a1 : Int) (w0 : (Lit.int .i64 a0).wf = true) (w1 : (Lit.int .i64 a1).wf = true) (w : World) :
    Calls Trym.prog 3 #[.int .i64 a0, .int .i64 a1] w fun e w' => e = .returned (.bool true) ∧ Below w.heap.size w w' := by
  by_cases h : a0 < 0 ∨ 100 < a0 ∨ a1 < 0 ∨ 65536 < a1
  · exact early a0 a1 w h
  · obtain ⟨d, rfl⟩ : ∃ d : Nat, a0 = (d : Int) := ⟨a0.toNat, by omega⟩
    obtain ⟨m, rfl⟩ : ∃ m : Nat, a1 = (m : Int) := ⟨a1.toNat, by omega⟩
    exact main_walk d m (100 - d) w (by omega) (by omega)

/-! ### THE ROW's STEP: WRITTEN OUT: LEAVE IT -/
set_option maxRecDepth 100000 in
theorem lifted (os : Os) (started : os.Started) (H : Type) (enc : TypeId × Value → H) :
    ReturnsInHanded {} Trym.checked os 3 .any (Rows.fnEnterCountsUpToMaxDepthSpec.pre6 enc Trym.prog Trym.f3 Rows.fnEnterCountsUpToMaxDepthRow.domain false) (Rows.fnEnterCountsUpToMaxDepthSpec.post enc Trym.prog Trym.f3 false true false false) := by
  refine returnsInHanded_of_change (C := Trym.checked) own started (by kernel_rfl) Trym.func3
    (ChangeSpec.witness6 (enc := enc) (C := Trym.checked) false ⟨#[], #[.int .i64 0, .int .i64 0], []⟩ 8 (by kernel_rfl) (by kernel_rfl) (by kernel_rfl) (by kernel_rfl)) ?_
  intro W base args ds gs before hval0 hW hcnd _
  have hval : ∀ (j : Nat) t v, Trym.f3.params[j]? = some t → args[j]? = some v → Value.okWide Trym.prog W .any base t v := hval0
  have hW' := hW
  obtain ⟨p, q, hA0, hV, rfl, hfz, hnd⟩ := hW
  have hA : DataW.TrodAll enc Trym.prog W 0 (fun _ => true) true Trym.f3.params.toList args.toList ds p := hA0
  rw [Trym.params3] at hA hval
  obtain ⟨v0, vs0, d0, ds0, p0, q0, hargs, rfl, rfl, h0, r0⟩ := trodAll_cons hA
  obtain ⟨v1, vs1, d1, ds1, p1, q1, rfl, rfl, rfl, h1, r1⟩ := trodAll_cons r0
  obtain ⟨rfl, rfl, rfl⟩ := trodAll_nil r1
  obtain rfl : args = #[v0, v1] := by cases args; simp_all
  obtain ⟨rfl, rfl⟩ := trodVars_none hV
  obtain ⟨a0, rfl, rfl, rfl, w0⟩ := open_int Trym.underlying3 (hval 0 3 v0 rfl rfl) h0
  obtain ⟨a1, rfl, rfl, rfl, w1⟩ := open_int Trym.underlying3 (hval 1 3 v1 rfl rfl) h1
  clear hA0 hval0
  refine (walk a0 a1 w0 w1 W).mono fun e W' ⟨he, bel⟩ => ?_
  subst he
  exact ⟨_, rfl, _, _, _, [], _, [], hW', trodAll_mk1 (shut_bool Trym.underlying4 _), (trodAll_cons_mk (shut_int Trym.underlying3 w0) (trodAll_cons_mk (shut_int Trym.underlying3 w1) trodAll_mk0)), rfl, bel.frame _, fun h => by cases h⟩

theorem over : Rows.fnEnterCountsUpToMaxDepthRow.holds Trym.pinned (OpenSpec.ofChange Rows.fnEnterCountsUpToMaxDepthSpec) :=
  OpenClaim.holds_of_wide 3 Trym.f3 rfl rfl rfl rfl rfl rfl rfl ⟨rfl, rfl, rfl, rfl, rfl⟩ rfl rfl rfl rfl rfl (by kernel_rfl) Trym.func3 (by kernel_rfl)
    (of_decide_eq_true (by kernel_rfl)) (by unfold Func.isWrapper; first | (rw [if_pos (by decide +kernel)]; kernel_rfl) | (rw [if_neg (by decide +kernel)]; exact ⟨rfl, rfl⟩))
    (fun os started H enc _ => lifted os started H enc)

/-- ████ THE STATEMENT ████ -/
theorem proved : Rows.FnEnterCountsUpToMaxDepthSaid :=
  over
#print axioms proved
end Go.Proofs.Qxb6612479aMods.fnEnterCountsUpToMaxDepth
