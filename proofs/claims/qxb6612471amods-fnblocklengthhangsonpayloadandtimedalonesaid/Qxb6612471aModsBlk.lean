/-
  THE WALKS of FnBlockLengthHangsOnPayloadAndTimedAlone.
-/
import Derived.Test.Qxb6612471aModsRows
import Derived.WalkKit
import Derived.Below
import Derived.BigQuiet
import Derived.Deep.QuietTactic
namespace Go.Proofs.Qxb6612471aMods.Blk
open Go.RowKit
set_option linter.unusedVariables false

theorem explode (l : List Value) (h : l.length = 52) : ∃ v0 v1 v2 v3 v4 v5 v6 v7 v8 v9 v10 v11 v12 v13 v14 v15 v16 v17 v18 v19 v20 v21 v22 v23 v24 v25 v26 v27 v28 v29 v30 v31 v32 v33 v34 v35 v36 v37 v38 v39 v40 v41 v42 v43 v44 v45 v46 v47 v48 v49 v50 v51 : Value, l = [v0, v1, v2, v3, v4, v5, v6, v7, v8, v9, v10, v11, v12, v13, v14, v15, v16, v17, v18, v19, v20, v21, v22, v23, v24, v25, v26, v27, v28, v29, v30, v31, v32, v33, v34, v35, v36, v37, v38, v39, v40, v41, v42, v43, v44, v45, v46, v47, v48, v49, v50, v51] := by
  obtain ⟨v0, l0, rfl⟩ : ∃ a t, l = a :: t := by cases l with | nil => simp at h | cons a t => exact ⟨a, t, rfl⟩
  obtain ⟨v1, l1, rfl⟩ : ∃ a t, l0 = a :: t := by cases l0 with | nil => simp at h | cons a t => exact ⟨a, t, rfl⟩
  obtain ⟨v2, l2, rfl⟩ : ∃ a t, l1 = a :: t := by cases l1 with | nil => simp at h | cons a t => exact ⟨a, t, rfl⟩
  obtain ⟨v3, l3, rfl⟩ : ∃ a t, l2 = a :: t := by cases l2 with | nil => simp at h | cons a t => exact ⟨a, t, rfl⟩
  obtain ⟨v4, l4, rfl⟩ : ∃ a t, l3 = a :: t := by cases l3 with | nil => simp at h | cons a t => exact ⟨a, t, rfl⟩
  obtain ⟨v5, l5, rfl⟩ : ∃ a t, l4 = a :: t := by cases l4 with | nil => simp at h | cons a t => exact ⟨a, t, rfl⟩
  obtain ⟨v6, l6, rfl⟩ : ∃ a t, l5 = a :: t := by cases l5 with | nil => simp at h | cons a t => exact ⟨a, t, rfl⟩
  obtain ⟨v7, l7, rfl⟩ : ∃ a t, l6 = a :: t := by cases l6 with | nil => simp at h | cons a t => exact ⟨a, t, rfl⟩
  obtain ⟨v8, l8, rfl⟩ : ∃ a t, l7 = a :: t := by cases l7 with | nil => simp at h | cons a t => exact ⟨a, t, rfl⟩
  obtain ⟨v9, l9, rfl⟩ : ∃ a t, l8 = a :: t := by cases l8 with | nil => simp at h | cons a t => exact ⟨a, t, rfl⟩
  obtain ⟨v10, l10, rfl⟩ : ∃ a t, l9 = a :: t := by cases l9 with | nil => simp at h | cons a t => exact ⟨a, t, rfl⟩
  obtain ⟨v11, l11, rfl⟩ : ∃ a t, l10 = a :: t := by cases l10 with | nil => simp at h | cons a t => exact ⟨a, t, rfl⟩
  obtain ⟨v12, l12, rfl⟩ : ∃ a t, l11 = a :: t := by cases l11 with | nil => simp at h | cons a t => exact ⟨a, t, rfl⟩
  obtain ⟨v13, l13, rfl⟩ : ∃ a t, l12 = a :: t := by cases l12 with | nil => simp at h | cons a t => exact ⟨a, t, rfl⟩
  obtain ⟨v14, l14, rfl⟩ : ∃ a t, l13 = a :: t := by cases l13 with | nil => simp at h | cons a t => exact ⟨a, t, rfl⟩
  obtain ⟨v15, l15, rfl⟩ : ∃ a t, l14 = a :: t := by cases l14 with | nil => simp at h | cons a t => exact ⟨a, t, rfl⟩
  obtain ⟨v16, l16, rfl⟩ : ∃ a t, l15 = a :: t := by cases l15 with | nil => simp at h | cons a t => exact ⟨a, t, rfl⟩
  obtain ⟨v17, l17, rfl⟩ : ∃ a t, l16 = a :: t := by cases l16 with | nil => simp at h | cons a t => exact ⟨a, t, rfl⟩
  obtain ⟨v18, l18, rfl⟩ : ∃ a t, l17 = a :: t := by cases l17 with | nil => simp at h | cons a t => exact ⟨a, t, rfl⟩
  obtain ⟨v19, l19, rfl⟩ : ∃ a t, l18 = a :: t := by cases l18 with | nil => simp at h | cons a t => exact ⟨a, t, rfl⟩
  obtain ⟨v20, l20, rfl⟩ : ∃ a t, l19 = a :: t := by cases l19 with | nil => simp at h | cons a t => exact ⟨a, t, rfl⟩
  obtain ⟨v21, l21, rfl⟩ : ∃ a t, l20 = a :: t := by cases l20 with | nil => simp at h | cons a t => exact ⟨a, t, rfl⟩
  obtain ⟨v22, l22, rfl⟩ : ∃ a t, l21 = a :: t := by cases l21 with | nil => simp at h | cons a t => exact ⟨a, t, rfl⟩
  obtain ⟨v23, l23, rfl⟩ : ∃ a t, l22 = a :: t := by cases l22 with | nil => simp at h | cons a t => exact ⟨a, t, rfl⟩
  obtain ⟨v24, l24, rfl⟩ : ∃ a t, l23 = a :: t := by cases l23 with | nil => simp at h | cons a t => exact ⟨a, t, rfl⟩
  obtain ⟨v25, l25, rfl⟩ : ∃ a t, l24 = a :: t := by cases l24 with | nil => simp at h | cons a t => exact ⟨a, t, rfl⟩
  obtain ⟨v26, l26, rfl⟩ : ∃ a t, l25 = a :: t := by cases l25 with | nil => simp at h | cons a t => exact ⟨a, t, rfl⟩
  obtain ⟨v27, l27, rfl⟩ : ∃ a t, l26 = a :: t := by cases l26 with | nil => simp at h | cons a t => exact ⟨a, t, rfl⟩
  obtain ⟨v28, l28, rfl⟩ : ∃ a t, l27 = a :: t := by cases l27 with | nil => simp at h | cons a t => exact ⟨a, t, rfl⟩
  obtain ⟨v29, l29, rfl⟩ : ∃ a t, l28 = a :: t := by cases l28 with | nil => simp at h | cons a t => exact ⟨a, t, rfl⟩
  obtain ⟨v30, l30, rfl⟩ : ∃ a t, l29 = a :: t := by cases l29 with | nil => simp at h | cons a t => exact ⟨a, t, rfl⟩
  obtain ⟨v31, l31, rfl⟩ : ∃ a t, l30 = a :: t := by cases l30 with | nil => simp at h | cons a t => exact ⟨a, t, rfl⟩
  obtain ⟨v32, l32, rfl⟩ : ∃ a t, l31 = a :: t := by cases l31 with | nil => simp at h | cons a t => exact ⟨a, t, rfl⟩
  obtain ⟨v33, l33, rfl⟩ : ∃ a t, l32 = a :: t := by cases l32 with | nil => simp at h | cons a t => exact ⟨a, t, rfl⟩
  obtain ⟨v34, l34, rfl⟩ : ∃ a t, l33 = a :: t := by cases l33 with | nil => simp at h | cons a t => exact ⟨a, t, rfl⟩
  obtain ⟨v35, l35, rfl⟩ : ∃ a t, l34 = a :: t := by cases l34 with | nil => simp at h | cons a t => exact ⟨a, t, rfl⟩
  obtain ⟨v36, l36, rfl⟩ : ∃ a t, l35 = a :: t := by cases l35 with | nil => simp at h | cons a t => exact ⟨a, t, rfl⟩
  obtain ⟨v37, l37, rfl⟩ : ∃ a t, l36 = a :: t := by cases l36 with | nil => simp at h | cons a t => exact ⟨a, t, rfl⟩
  obtain ⟨v38, l38, rfl⟩ : ∃ a t, l37 = a :: t := by cases l37 with | nil => simp at h | cons a t => exact ⟨a, t, rfl⟩
  obtain ⟨v39, l39, rfl⟩ : ∃ a t, l38 = a :: t := by cases l38 with | nil => simp at h | cons a t => exact ⟨a, t, rfl⟩
  obtain ⟨v40, l40, rfl⟩ : ∃ a t, l39 = a :: t := by cases l39 with | nil => simp at h | cons a t => exact ⟨a, t, rfl⟩
  obtain ⟨v41, l41, rfl⟩ : ∃ a t, l40 = a :: t := by cases l40 with | nil => simp at h | cons a t => exact ⟨a, t, rfl⟩
  obtain ⟨v42, l42, rfl⟩ : ∃ a t, l41 = a :: t := by cases l41 with | nil => simp at h | cons a t => exact ⟨a, t, rfl⟩
  obtain ⟨v43, l43, rfl⟩ : ∃ a t, l42 = a :: t := by cases l42 with | nil => simp at h | cons a t => exact ⟨a, t, rfl⟩
  obtain ⟨v44, l44, rfl⟩ : ∃ a t, l43 = a :: t := by cases l43 with | nil => simp at h | cons a t => exact ⟨a, t, rfl⟩
  obtain ⟨v45, l45, rfl⟩ : ∃ a t, l44 = a :: t := by cases l44 with | nil => simp at h | cons a t => exact ⟨a, t, rfl⟩
  obtain ⟨v46, l46, rfl⟩ : ∃ a t, l45 = a :: t := by cases l45 with | nil => simp at h | cons a t => exact ⟨a, t, rfl⟩
  obtain ⟨v47, l47, rfl⟩ : ∃ a t, l46 = a :: t := by cases l46 with | nil => simp at h | cons a t => exact ⟨a, t, rfl⟩
  obtain ⟨v48, l48, rfl⟩ : ∃ a t, l47 = a :: t := by cases l47 with | nil => simp at h | cons a t => exact ⟨a, t, rfl⟩
  obtain ⟨v49, l49, rfl⟩ : ∃ a t, l48 = a :: t := by cases l48 with | nil => simp at h | cons a t => exact ⟨a, t, rfl⟩
  obtain ⟨v50, l50, rfl⟩ : ∃ a t, l49 = a :: t := by cases l49 with | nil => simp at h | cons a t => exact ⟨a, t, rfl⟩
  obtain ⟨v51, l51, rfl⟩ : ∃ a t, l50 = a :: t := by cases l50 with | nil => simp at h | cons a t => exact ⟨a, t, rfl⟩
  have hl : l51 = [] := List.eq_nil_of_length_eq_zero (by simpa using h)
  subst hl
  exact ⟨v0, v1, v2, v3, v4, v5, v6, v7, v8, v9, v10, v11, v12, v13, v14, v15, v16, v17, v18, v19, v20, v21, v22, v23, v24, v25, v26, v27, v28, v29, v30, v31, v32, v33, v34, v35, v36, v37, v38, v39, v40, v41, v42, v43, v44, v45, v46, v47, v48, v49, v50, v51, rfl⟩

set_option maxRecDepth 100000 in
theorem build_lit (v0 v1 v2 v3 v4 v5 v6 v7 v8 v9 v10 v11 v12 v13 v14 v15 v16 v17 v18 v19 v20 v21 v22 v23 v24 v25 v26 v27 v28 v29 v30 v31 v32 v33 v34 v35 v36 v37 v38 v39 v40 v41 v42 v43 v44 v45 v46 v47 v48 v49 v50 v51 : Value) (off pl fl cnt first codec ea la : Int) (timed : Bool) (w : World) :
    (Instr.build 42 #[(0, .agg #[v0, v1, v2, v3, v4, v5, v6, v7, v8, v9, v10, v11, v12, v13, v14, v15, v16, v17, v18, v19, v20, v21, v22, v23, v24, v25, v26, v27, v28, v29, v30, v31, v32, v33, v34, v35, v36, v37, v38, v39, v40, v41, v42, v43, v44, v45, v46, v47, v48, v49, v50, v51]), (1, .int .i64 off), (2, .int .u32 pl), (3, .int .u32 fl), (4, .int .u32 cnt), (5, .int .u64 first), (6, .int .u8 codec), (7, .bool timed), (8, .agg #[.int .i64 ea, .int .i64 la])]).run Trym.prog w = .ok (.agg #[v0, v1, v2, v3, v4, v5, v6, v7, v8, v9, v10, v11, v12, v13, v14, v15, v16, v17, v18, v19, v20, v21, v22, v23, v24, v25, v26, v27, v28, v29, v30, v31, v32, v33, v34, v35, v36, v37, v38, v39, v40, v41, v42, v43, v44, v45, v46, v47, v48, v49, v50, v51, .int .i64 off, .int .u32 pl, .int .u32 fl, .int .u32 cnt, .int .u64 first, .int .u8 codec, .bool timed, .int .i64 ea, .int .i64 la]) w := by kernel_rfl

theorem build_any (xs : Array Value) (hx : xs.size = 52) (off pl fl cnt first codec ea la : Int) (timed : Bool) :
    ∃ cells : Array Value, (∀ w, (Instr.build 42 #[(0, .agg xs), (1, .int .i64 off), (2, .int .u32 pl), (3, .int .u32 fl), (4, .int .u32 cnt), (5, .int .u64 first), (6, .int .u8 codec), (7, .bool timed), (8, .agg #[.int .i64 ea, .int .i64 la])]).run Trym.prog w = .ok (.agg cells) w) ∧ cells[53]? = some (.int .u32 pl) ∧ cells[58]? = some (.bool timed) := by
  obtain ⟨v0, v1, v2, v3, v4, v5, v6, v7, v8, v9, v10, v11, v12, v13, v14, v15, v16, v17, v18, v19, v20, v21, v22, v23, v24, v25, v26, v27, v28, v29, v30, v31, v32, v33, v34, v35, v36, v37, v38, v39, v40, v41, v42, v43, v44, v45, v46, v47, v48, v49, v50, v51, hl⟩ := explode xs.toList (by simpa using hx)
  obtain rfl : xs = #[v0, v1, v2, v3, v4, v5, v6, v7, v8, v9, v10, v11, v12, v13, v14, v15, v16, v17, v18, v19, v20, v21, v22, v23, v24, v25, v26, v27, v28, v29, v30, v31, v32, v33, v34, v35, v36, v37, v38, v39, v40, v41, v42, v43, v44, v45, v46, v47, v48, v49, v50, v51] := by rw [← Array.toArray_toList (xs := xs), hl]
  exact ⟨_, fun w => build_lit v0 v1 v2 v3 v4 v5 v6 v7 v8 v9 v10 v11 v12 v13 v14 v15 v16 v17 v18 v19 v20 v21 v22 v23 v24 v25 v26 v27 v28 v29 v30 v31 v32 v33 v34 v35 v36 v37 v38 v39 v40 v41 v42 v43 v44 v45 v46 v47 v48 v49 v50 v51 off pl fl cnt first codec ea la timed w, rfl, rfl⟩

/-- A build whose run is known, for the walk. -/
theorem wpList_build {P : Program} {w : World} {ops : Array Oper} {rest : List Oper} {o : Oper} {a : Act} {Q : Exit → Act → World → Prop} (hg : o.guard = none) (t : TypeId) (parts : Array (Nat × Operand)) (hop : o.op = Op.build t parts)
    (vs : Array (Nat × Value)) (hv : (parts.toList.map fun p => (p.1, a.eval p.2)) = vs.toList) (v : Value) (hrun : (Instr.build t vs).run P w = .ok v w) (h : wpList P ops Q rest (a.put o.dst v) w) : wpList P ops Q (o :: rest) a w := by
  refine wpList_plain hg fun K hK => ?_
  have hv' : (parts.map fun (i, x) => (i, a.eval x)) = vs := by
    apply Array.toList_inj.1
    rw [Array.toList_map]
    exact hv
  subst hv'
  unfold Oper.wp
  simp only [execOp, hop]
  simp [hrun, Result.andThen]
  exact hK _ _ h

theorem two_below (w : World) (o o' : Obj) : Below w.heap.size w ((w.alloc o).alloc o') := ((Below.refl _ _).alloc (Nat.le_refl _) _).alloc (by simp) _
theorem Trym.info31 : (Trym.prog.info? 31).map (·.size) = some 52 := by kernel_rfl

set_option maxRecDepth 100000 in
set_option maxHeartbeats 1000000 in
theorem new_any (xs : Array Value) (hx : xs.size = 52) (off pl fl cnt first codec ea la : Int) (timed : Bool) (w : World) :
    Calls Trym.prog 9 #[.agg xs, .int .i64 off, .int .u32 pl, .int .u32 fl, .int .u32 cnt, .int .u64 first, .int .u8 codec, .bool timed, .int .i64 ea, .int .i64 la] w fun e w' =>
      ∃ B, e = .returned (.pointer (some ⟨B, 0, none⟩)) ∧ w'.cell? ⟨B, 53, none⟩ = some (.int .u32 pl) ∧ w'.cell? ⟨B, 58, none⟩ = some (.bool timed) ∧ Below w.heap.size w w' := by
  obtain ⟨cells, hb, h53, h58⟩ := build_any xs hx off pl fl cnt first codec ea la timed
  have HB : Hid (∀ w, (Instr.build 42 #[(0, .agg xs), (1, .int .i64 off), (2, .int .u32 pl), (3, .int .u32 fl), (4, .int .u32 cnt), (5, .int .u64 first), (6, .int .u8 codec), (7, .bool timed), (8, .agg #[.int .i64 ea, .int .i64 la])]).run Trym.prog w = .ok (.agg cells) w) := hb
  have HI : Hid ((Trym.prog.info? 31).map (·.size) = some xs.size) := by rw [hx]; exact Trym.info31
  clear hb
  go_enter Trym.func9, Trym.ntmps9
  go_wp2_with (first | (refine wpList_load_row rfl 31 _ rfl w.heap.size rfl 31 xs (0, 0) _ (heap_alloc_new w _) Trym.underlying31 rfl HI.out ?_) | (refine wpList_build rfl 42 _ rfl #[(0, .agg xs), (1, .int .i64 off), (2, .int .u32 pl), (3, .int .u32 fl), (4, .int .u32 cnt), (5, .int .u64 first), (6, .int .u8 codec), (7, .bool timed), (8, .agg #[.int .i64 ea, .int .i64 la])] rfl _ (HB.out _) ?_))
  go_ret
  refine ⟨w.heap.size + 1, rfl, ?_, ?_, two_below _ _ _⟩
  · rw [cell_of_row _ (w.heap.size + 1) 53 cells 42 (0, 0) (heap_alloc2_new w _ _)]; exact h53
  · rw [cell_of_row _ (w.heap.size + 1) 58 cells 42 (0, 0) (heap_alloc2_new w _ _)]; exact h58

theorem size_any (B : Nat) (timed : Bool) (w : World) (h : w.cell? ⟨B, 58, none⟩ = some (.bool timed)) :
    Calls Trym.prog 13 #[.pointer (some ⟨B, 0, none⟩)] w fun e w' => e = .returned (.int .i64 (if timed = true then 52 else 36)) ∧ w' = w := by
  cases timed with
  | false =>
    go_enter Trym.func13, Trym.ntmps13
    go_wp2
    go_ret
    exact ⟨rfl, rfl⟩
  | true =>
    go_enter Trym.func13, Trym.ntmps13
    go_wp2
    go_ret
    exact ⟨rfl, rfl⟩

theorem len_any (B : Nat) (timed : Bool) (pl : Int) (w : World) (z : Int) (hz : (if timed = true then (52 : Int) else 36) = z) (hp : 0 ≤ pl ∧ pl ≤ 4294967295) (h1 : w.cell? ⟨B, 53, none⟩ = some (.int .u32 pl)) (h2 : w.cell? ⟨B, 58, none⟩ = some (.bool timed)) :
    Calls Trym.prog 8 #[.pointer (some ⟨B, 0, none⟩)] w fun e w' => e = .returned (.int .i64 (z + pl + 4)) ∧ ∃ nq, w' = w.drewN nq := by
  have hzb : 36 ≤ z ∧ z ≤ 52 := by rw [← hz]; cases timed <;> simp
  have HS := fun wx hx => size_any B timed wx hx
  rw [hz] at HS
  have HSS : Hid (∀ wx, wx.cell? ⟨B, 58, none⟩ = some (.bool timed) → Calls Trym.prog 13 #[.pointer (some ⟨B, 0, none⟩)] wx fun e w' => e = .returned (.int .i64 z) ∧ w' = wx) := HS
  clear HS hz
  go_enter Trym.func8, Trym.ntmps8
  go_wp2
  go_quiet ((go_at_call 13; exact Calls.quiet_of_same (HSS.out _ (by simpa using h2))))
  go_wp2
  go_ret
  exact ⟨rfl, _, rfl⟩
end Go.Proofs.Qxb6612471aMods.Blk
