/-
  A PROOF OF 'Rows.FnBlockLengthHangsOnPayloadAndTimedAloneSaid'. The walks are typed by hand; the row's step is the guide's own way (as its shells have it) at this function's number and types.
-/
import Derived.Test.Qxb6612471aModsBlk
import Derived.WalkKit
import Derived.ProofKit
import Derived.OpenShut
import Derived.ChangeOld
import Derived.Below
import Derived.Deep.DeepCutAuto
namespace Go.Proofs.Qxb6612471aMods.fnBlockLengthHangsOnPayloadAndTimedAlone
open Go.ChangeShapes Go.WideShapes Go.ChangeAt Go.RowKit
open Go.Proofs.Qxb6612471aMods.Blk
set_option linter.unusedVariables false

theorem own : ownKnob Trym.prog.godebug = none := by kernel_rfl
theorem laidOut : laidOutB Trym.prog = true := by kernel_rfl
theorem ret_true {b : Bool} (h : b = true) : Ending.returned (.bool b) = .returned (.bool true) := by rw [h]

set_option maxRecDepth 100000 in
set_option maxHeartbeats 2000000 in
theorem walk (xs : Array Value) (hx : xs.size = 52) (off pl fl cnt first codec ea la : Int) (timed : Bool) (w : World) (hp : 0 ≤ pl ∧ pl ≤ 4294967295) :
    Calls Trym.prog 5 #[.agg xs, .int .i64 off, .int .u32 pl, .int .u32 fl, .int .u32 cnt, .int .u64 first, .int .u8 codec, .bool timed, .int .i64 ea, .int .i64 la] w fun e w' => e = .returned (.bool true) ∧ Below w.heap.size w w' := by
  have HI : Hid ((Trym.prog.info? 31).map (·.size) = some xs.size) := by rw [hx]; exact Trym.info31
  have HB0 : Hid (Below w.heap.size w (w.alloc (.cells xs 31))) := (Below.refl _ _).alloc (Nat.le_refl _) _
  obtain ⟨zt, hzt⟩ : ∃ z : Int, Hid ((if timed = true then (52 : Int) else 36) = z) := ⟨_, rfl⟩
  have hztb : 36 ≤ zt ∧ zt ≤ 52 := by rw [← hzt.out]; cases timed <;> simp
  go_enter Trym.func5, Trym.ntmps5
  go_wp2_with (first | (refine wpList_load_row rfl 31 _ rfl w.heap.size rfl 31 xs (0, 0) _ (heap_alloc_new w _) Trym.underlying31 rfl HI.out ?_))
  refine (new_any xs hx off pl fl cnt first codec ea la timed _).mono ?_
  rintro e w1 ⟨B, rfl, c53, c58, hb⟩
  have HB1 : Hid (Below w.heap.size w w1) := HB0.out.trans (hb.mono (by simp))
  clear hb HB0
  go_wp2_with fail
  refine (len_any B timed pl w1 zt hzt.out hp c53 c58).mono ?_
  rintro e w2 ⟨rfl, nq, rfl⟩
  clear c53 c58
  go_upto_region 2 with fail
  go_cut [22] (fun s22 wc => ∃ (Z : Array Value) (Zb : Nat), s22 = .pointer (some ⟨Zb, 0, none⟩) ∧ Z.size = 52 ∧ wc.heap[Zb]? = some (.cells Z 31 (0, 0)) ∧ Below w.heap.size w wc)
  case first =>
    go_wp2
    go_meet
    case rel => exact ⟨_, w1.heap.size, rfl, by decide, heap_alloc_new (w1.drewN nq) _, (Below.alloc (w := w1.drewN nq) ⟨HB1.out.os, HB1.out.tape, HB1.out.output, HB1.out.size, HB1.out.block⟩ (by exact HB1.out.size) _)⟩
  case rest =>
  rename World => w2
  obtain ⟨Z, Zb, rfl, hZs, hZ, hB2⟩ := hcut
  have HZ0 : Hid (w2.heap[Zb]? = some (.cells Z 31 (0, 0)) ∧ Below w.heap.size w w2) := ⟨hZ, hB2⟩
  have HIZ : Hid ((Trym.prog.info? 31).map (·.size) = some Z.size) := by rw [hZs]; exact Trym.info31
  clear hZ hB2
  go_wp2_with (first | (refine wpList_load_row rfl 31 _ rfl Zb rfl 31 Z (0, 0) _ (by exact HZ0.out.1) Trym.underlying31 rfl HIZ.out ?_))
  refine (new_any Z hZs 0 pl 0 0 0 0 0 0 timed _).mono ?_
  rintro e w3' ⟨B0, rfl, c53, c58, hb⟩
  have HZ1 : Hid (w3'.heap[Zb]? = some (.cells Z 31 (0, 0)) ∧ Below w.heap.size w w3') := ⟨(hb.block Zb (Array.getElem?_eq_some_iff.1 HZ0.out.1).1).trans HZ0.out.1, HZ0.out.2.trans (Below.mono (B := w2.heap.size) ⟨hb.os, hb.tape, hb.output, hb.size, hb.block⟩ HZ0.out.2.size)⟩
  clear hb
  go_wp2_with fail
  refine (len_any B0 timed pl w3' zt hzt.out hp c53 c58).mono ?_
  rintro e w3 ⟨rfl, nq0, rfl⟩
  clear c53 c58
  go_wp2_with (first | (refine wpList_load_row rfl 31 _ rfl Zb rfl 31 Z (0, 0) _ (by exact HZ1.out.1) Trym.underlying31 rfl HIZ.out ?_))
  refine (new_any Z hZs 0 pl 0 0 0 0 0 0 false _).mono ?_
  rintro e w4' ⟨B1, rfl, c53, c58, hb⟩
  have HZ2 : Hid (w4'.heap[Zb]? = some (.cells Z 31 (0, 0)) ∧ Below w.heap.size w w4') := ⟨(hb.block Zb (Array.getElem?_eq_some_iff.1 HZ1.out.1).1).trans HZ1.out.1, HZ1.out.2.trans (Below.mono (B := w3'.heap.size) ⟨hb.os, hb.tape, hb.output, hb.size, hb.block⟩ HZ1.out.2.size)⟩
  clear hb
  go_wp2_with fail
  refine (len_any B1 false pl w4' 36 rfl hp c53 c58).mono ?_
  rintro e w4 ⟨rfl, nq1, rfl⟩
  clear c53 c58
  go_wp2_with (first | (refine wpList_load_row rfl 31 _ rfl Zb rfl 31 Z (0, 0) _ (by exact HZ2.out.1) Trym.underlying31 rfl HIZ.out ?_))
  refine (new_any Z hZs 0 pl 0 0 0 0 0 0 true _).mono ?_
  rintro e w5' ⟨B2, rfl, c53, c58, hb⟩
  have HZ3 : Hid (w5'.heap[Zb]? = some (.cells Z 31 (0, 0)) ∧ Below w.heap.size w w5') := ⟨(hb.block Zb (Array.getElem?_eq_some_iff.1 HZ2.out.1).1).trans HZ2.out.1, HZ2.out.2.trans (Below.mono (B := w4'.heap.size) ⟨hb.os, hb.tape, hb.output, hb.size, hb.block⟩ HZ2.out.2.size)⟩
  clear hb
  go_wp2_with fail
  refine (len_any B2 true pl w5' 52 rfl hp c53 c58).mono ?_
  rintro e w5 ⟨rfl, nq2, rfl⟩
  clear c53 c58
  go_wp2
  go_ret
  exact ⟨ret_true (by simp; omega), HZ3.out.2.os, HZ3.out.2.tape, HZ3.out.2.output, HZ3.out.2.size, HZ3.out.2.block⟩

theorem cells31 : Trym.prog.cellsOf 31 = 52 := by kernel_rfl
theorem okWide_arr {P : Program} {w : World} {r : Reach} {base : Nat} {t e : TypeId} {n : Nat} {v : Value} (ht : P.underlying t = some (.array n e)) (h : Value.okWide P w r base t v) : ∃ cs, v = .agg cs ∧ cs.size = P.cellsOf t := by
  simp only [Value.okWide, ht] at h
  obtain ⟨cs, h1, h2, _⟩ := h
  exact ⟨cs, h1, h2⟩

/-! ### The row's step -/
set_option maxRecDepth 100000 in
theorem lifted (os : Os) (started : os.Started) (H : Type) (enc : TypeId × Value → H) :
    ReturnsInHanded {} Trym.checked os 5 .any (Rows.fnBlockLengthHangsOnPayloadAndTimedAloneSpec.pre6 enc Trym.prog Trym.f5 Rows.fnBlockLengthHangsOnPayloadAndTimedAloneRow.domain false) (Rows.fnBlockLengthHangsOnPayloadAndTimedAloneSpec.post enc Trym.prog Trym.f5 false true false false) := by
  refine returnsInHanded_of_change (C := Trym.checked) own started (by kernel_rfl) Trym.func5
    (ChangeSpec.witness6 (enc := enc) (C := Trym.checked) false ⟨#[], #[.agg #[.int .u8 0, .int .u8 0, .int .u8 0, .int .u8 0, .int .u8 0, .int .u8 0, .int .u8 0, .int .u8 0, .int .u8 0, .int .u8 0, .int .u8 0, .int .u8 0, .int .u8 0, .int .u8 0, .int .u8 0, .int .u8 0, .int .u8 0, .int .u8 0, .int .u8 0, .int .u8 0, .int .u8 0, .int .u8 0, .int .u8 0, .int .u8 0, .int .u8 0, .int .u8 0, .int .u8 0, .int .u8 0, .int .u8 0, .int .u8 0, .int .u8 0, .int .u8 0, .int .u8 0, .int .u8 0, .int .u8 0, .int .u8 0, .int .u8 0, .int .u8 0, .int .u8 0, .int .u8 0, .int .u8 0, .int .u8 0, .int .u8 0, .int .u8 0, .int .u8 0, .int .u8 0, .int .u8 0, .int .u8 0, .int .u8 0, .int .u8 0, .int .u8 0, .int .u8 0], .int .i64 0, .int .u32 0, .int .u32 0, .int .u32 0, .int .u64 0, .int .u8 0, .bool false, .int .i64 0, .int .i64 0], []⟩ 8 (by kernel_rfl) (by kernel_rfl) (by kernel_rfl) (by kernel_rfl)) ?_
  intro W base args ds gs before hval0 hW hcnd _
  have hval : ∀ (j : Nat) t v, Trym.f5.params[j]? = some t → args[j]? = some v → Value.okWide Trym.prog W .any base t v := hval0
  have hW' := hW
  obtain ⟨p, q, hA0, hV, rfl, hfz, hnd⟩ := hW
  have hA : DataW.TrodAll enc Trym.prog W 0 (fun _ => true) true Trym.f5.params.toList args.toList ds p := hA0
  rw [Trym.params5] at hA hval
  obtain ⟨v0, vs0, d0, ds0, p0, q0, hargs, rfl, rfl, h0, r0⟩ := trodAll_cons hA
  obtain ⟨v1, vs1, d1, ds1, p1, q1, rfl, rfl, rfl, h1, r1⟩ := trodAll_cons r0
  obtain ⟨v2, vs2, d2, ds2, p2, q2, rfl, rfl, rfl, h2, r2⟩ := trodAll_cons r1
  obtain ⟨v3, vs3, d3, ds3, p3, q3, rfl, rfl, rfl, h3, r3⟩ := trodAll_cons r2
  obtain ⟨v4, vs4, d4, ds4, p4, q4, rfl, rfl, rfl, h4, r4⟩ := trodAll_cons r3
  obtain ⟨v5, vs5, d5, ds5, p5, q5, rfl, rfl, rfl, h5, r5⟩ := trodAll_cons r4
  obtain ⟨v6, vs6, d6, ds6, p6, q6, rfl, rfl, rfl, h6, r6⟩ := trodAll_cons r5
  obtain ⟨v7, vs7, d7, ds7, p7, q7, rfl, rfl, rfl, h7, r7⟩ := trodAll_cons r6
  obtain ⟨v8, vs8, d8, ds8, p8, q8, rfl, rfl, rfl, h8, r8⟩ := trodAll_cons r7
  obtain ⟨v9, vs9, d9, ds9, p9, q9, rfl, rfl, rfl, h9, r9⟩ := trodAll_cons r8
  obtain ⟨rfl, rfl, rfl⟩ := trodAll_nil r9
  obtain rfl : args = #[v0, v1, v2, v3, v4, v5, v6, v7, v8, v9] := by cases args; simp_all
  obtain ⟨rfl, rfl⟩ := trodVars_none hV
  obtain ⟨xs, rfl, hxs⟩ := okWide_arr Trym.underlying31 (hval 0 31 v0 rfl rfl)
  rw [cells31] at hxs
  have k0 := h0
  have lt0 : ∀ x ∈ p0, x.block < W.heap.size := by obtain ⟨m, hm⟩ := k0; exact DataW.trod_lt m _ _ _ hm
  obtain ⟨a1, rfl, rfl, rfl, w1⟩ := open_int Trym.underlying2 (hval 1 2 v1 rfl rfl) h1
  obtain ⟨a2, rfl, rfl, rfl, w2⟩ := open_int Trym.underlying32 (hval 2 32 v2 rfl rfl) h2
  obtain ⟨a3, rfl, rfl, rfl, w3⟩ := open_int Trym.underlying32 (hval 3 32 v3 rfl rfl) h3
  obtain ⟨a4, rfl, rfl, rfl, w4⟩ := open_int Trym.underlying32 (hval 4 32 v4 rfl rfl) h4
  obtain ⟨a5, rfl, rfl, rfl, w5⟩ := open_int Trym.underlying22 (hval 5 22 v5 rfl rfl) h5
  obtain ⟨a6, rfl, rfl, rfl, w6⟩ := open_int Trym.underlying5 (hval 6 5 v6 rfl rfl) h6
  obtain ⟨a7, rfl, rfl, rfl⟩ := open_bool Trym.underlying4 (hval 7 4 v7 rfl rfl) h7
  obtain ⟨a8, rfl, rfl, rfl, w8⟩ := open_int Trym.underlying2 (hval 8 2 v8 rfl rfl) h8
  obtain ⟨a9, rfl, rfl, rfl, w9⟩ := open_int Trym.underlying2 (hval 9 2 v9 rfl rfl) h9
  clear hA0 hval0
  refine (walk xs hxs a1 a2 a3 a4 a5 a6 a8 a9 a7 W (bounds_u32 w2)).mono fun e W' ⟨he, bel⟩ => ?_
  subst he
  exact ⟨_, rfl, _, _, _, [], _, [], hW', trodAll_mk1 (shut_bool Trym.underlying4 _), (trodAll_cons_mk (Below.trod laidOut (by kernel_rfl) (of_decide_eq_true (by kernel_rfl)) k0 bel lt0) (trodAll_cons_mk (shut_int Trym.underlying2 w1) (trodAll_cons_mk (shut_int Trym.underlying32 w2) (trodAll_cons_mk (shut_int Trym.underlying32 w3) (trodAll_cons_mk (shut_int Trym.underlying32 w4) (trodAll_cons_mk (shut_int Trym.underlying22 w5) (trodAll_cons_mk (shut_int Trym.underlying5 w6) (trodAll_cons_mk (shut_bool Trym.underlying4 _) (trodAll_cons_mk (shut_int Trym.underlying2 w8) (trodAll_cons_mk (shut_int Trym.underlying2 w9) trodAll_mk0)))))))))), rfl, bel.frame _, fun h => by cases h⟩

theorem over : Rows.fnBlockLengthHangsOnPayloadAndTimedAloneRow.holds Trym.pinned (OpenSpec.ofChange Rows.fnBlockLengthHangsOnPayloadAndTimedAloneSpec) :=
  OpenClaim.holds_of_wide 5 Trym.f5 rfl rfl rfl rfl rfl rfl rfl ⟨rfl, rfl, rfl, rfl, rfl⟩ rfl rfl rfl rfl rfl (by kernel_rfl) Trym.func5 (by kernel_rfl)
    (of_decide_eq_true (by kernel_rfl)) (by unfold Func.isWrapper; first | (rw [if_pos (by decide +kernel)]; kernel_rfl) | (rw [if_neg (by decide +kernel)]; exact ⟨rfl, rfl⟩))
    (fun os started H enc _ => lifted os started H enc)

/-- THE STATEMENT -/
theorem proved : Rows.FnBlockLengthHangsOnPayloadAndTimedAloneSaid := over
#print axioms proved
end Go.Proofs.Qxb6612471aMods.fnBlockLengthHangsOnPayloadAndTimedAlone
