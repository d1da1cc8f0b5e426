/-
  THE WALK of FnCloseMembersLendsItsRoomToTheNextMapping.
-/
import Derived.Test.Qxb6612479aModsClose
import Derived.ProofKit
namespace Go.Proofs.Qxb6612479aMods.Mem
open Go.RowKit
set_option linter.unusedVariables false

set_option maxRecDepth 100000 in
set_option maxHeartbeats 2000000 in
theorem main_walk (s n d D : Nat) (w : World) (hD : D = d + 1) (hd : d < s) (hs : s ≤ 4096) (hn0 : 0 < n) (hn : n ≤ 65536) :
    Calls Trym.prog 4 #[.int .i64 D, .int .i64 s, .int .i64 n] w fun e w' => e = .returned (.bool true) ∧ Below w.heap.size w w' := by
  have HD : Hid (D = d + 1) := hD
  have e1 : decide ((s : Int) < 1) = false := decide_eq_false (by omega)
  have e2 : decide ((4096 : Int) < (s : Int)) = false := decide_eq_false (by omega)
  have e3 : decide ((n : Int) < 1) = false := decide_eq_false (by omega)
  have e4 : decide ((65536 : Int) < (n : Int)) = false := decide_eq_false (by omega)
  have e5 : decide ((D : Int) < 1) = false := decide_eq_false (by omega)
  have e6 : decide ((s : Int) < (D : Int)) = false := decide_eq_false (by omega)
  have e7 : (D : Int) - 1 = (d : Int) := by omega
  obtain ⟨i33, hi, hz0, hz1, hz2⟩ : ∃ i, Trym.prog.info? 33 = some i ∧ i.zero = some (.agg #[.slice none 0 0, .int .i64 0, .int .i64 0]) ∧ i.size = 3 ∧ i.bytes = 40 := by
    have h := Trym.info33
    cases h3 : Trym.prog.info? 33 with
    | none => rw [h3] at h; cases h
    | some i => rw [h3] at h; simp at h; exact ⟨i, rfl, h.1, h.2.1, h.2.2⟩
  obtain ⟨i29, hj, hy0, hy1, hy2⟩ : ∃ i, Trym.prog.info? 29 = some i ∧ i.zero = some (.slice none 0 0) ∧ i.size = 1 ∧ i.bytes = 24 := by
    have h := Trym.info29
    cases h3 : Trym.prog.info? 29 with
    | none => rw [h3] at h; cases h
    | some i => rw [h3] at h; simp at h; exact ⟨i, rfl, h.1, h.2.1, h.2.2⟩
  have HI : Hid (Trym.prog.info? 33 = some i33 ∧ i33.zero = some (.agg #[.slice none 0 0, .int .i64 0, .int .i64 0]) ∧ i33.size = 3 ∧ i33.bytes = 40) := ⟨hi, hz0, hz1, hz2⟩
  have HJ : Hid (Trym.prog.info? 29 = some i29 ∧ i29.zero = some (.slice none 0 0) ∧ i29.size = 1 ∧ i29.bytes = 24) := ⟨hj, hy0, hy1, hy2⟩
  clear hi hz0 hz1 hz2 hj hy0 hy1 hy2 hD
  obtain ⟨B, hB⟩ : ∃ B, Hid (w.heap.size = B) := ⟨_, rfl⟩
  go_enter Trym.func4, Trym.ntmps4
  go_wp2_with fail
  refine (none8 w).mono ?_
  rintro e w' ⟨rfl, hw'⟩
  obtain rfl : w = w' := hw'.symm
  clear hw'
  go_upto_block 0 with fail
  go_cut [7, 8, 9] (fun s7 s8 s9 wc => ∃ Rs, Rws w B s s7 Rs wc)
  case first =>
    go_wp2
    go_loopg [7, 8, 9] s (fun g s7 s8 s9 wr => ∃ (k : Nat) (v7 : Value), v7 = s7 ∧ k ≤ s ∧ Hid (k + g = s) ∧ s8 = .int .i64 k ∧ Hid (∃ Rs, Rws w B k v7 Rs wr))
    case atStart => exact ⟨0, _, rfl, by omega, Nat.zero_add _, rfl, [], rfl, World.ownsRow_nil _ _ _ _, fun j hj => by omega, Below.refl _ _⟩
    case round =>
      obtain ⟨k, v7, rfl, hk, hkg, rfl, HR⟩ := hrel
      by_cases hlt : k < s
      · have hki : (k : Int) < (s : Int) := by omega
        go_wp2_with fail
        refine (none9 wr).mono ?_
        rintro e w' ⟨rfl, hw'⟩
        obtain rfl : wr = w' := hw'.symm
        clear hw'
        go_wp2_with fail
        refine (member_any k k wr).mono ?_
        rintro e w1 ⟨rfl, hb1⟩
        have HB1 : Hid (Below wr.heap.size wr w1) := hb1
        clear hb1
        go_wp2_with (first | (at_builtin; refine wpList_append_own _ rfl (.tmp 43) (.tmp 47) 29 rfl w1.heap.size 33 i33 (.agg #[.slice none 0 0, .int .i64 0, .int .i64 0]) 3 40 Trym.underlying29 HI.out.1 HI.out.2.1 HI.out.2.2.1 HI.out.2.2.2 rfl (by decide) (.slice none 0 0) 0 [] rfl (World.ownsRow_nil _ _ _ _) ⟨w1.heap.size, 0, none⟩ 1 1 [.slice none 0 0, .int .i64 k, .int .i64 k] rfl rfl (three_new w1 _ _ _ _) (three_one _ _) (by decide) (by decide) (by simp) ?_))
        intro v1 w2 ho2 hg2 _
        obtain ⟨gr, capr, rfl, hgr, hm⟩ := mem_of_owns (n := 0) (show w2.ownsRow w1.heap.size 33 3 v1 1 [.slice none 0 0, .int .i64 k, .int .i64 k] from ho2)
        have HB2 : Hid (Below wr.heap.size wr w2) := (HB1.out.alloc HB1.out.size _).grown hg2 (by have := HB1.out.size; simp; omega) (by intro k h; cases h)
        have HM : Hid (Mem w2 gr k k) := hm
        clear ho2 hg2 hm hgr HB1
        obtain ⟨Rs, HS⟩ : ∃ Rs, Hid (Rws w B k v7 Rs wr) := HR.out
        have HBw : Hid (B ≤ wr.heap.size) := by have := HS.out.2.2.2.size; rw [hB.out] at this; exact this
        have HO : Hid (w2.ownsRow B 29 1 v7 k Rs) := owns_of_block HS.out.2.1 (fun g hg => HB2.out.block g (HS.out.2.1.lt g hg).2)
        clear HR
        go_wp2_with (first | (at_builtin; refine wpList_append_own _ rfl (.tmp 49) (.tmp 51) 27 rfl B 29 i29 (.slice none 0 0) 1 24 Trym.underlying27 HJ.out.1 HJ.out.2.1 HJ.out.2.2.1 HJ.out.2.2.2 rfl (by decide) v7 k Rs rfl (HO.out.alloc _) ⟨w2.heap.size, 0, none⟩ 1 1 [.slice (some ⟨gr, 0, none⟩) 1 capr] rfl rfl (one_new w2 _ _) (by intro u hu; simp at hu; rw [hu]; rfl) (by unfold maxLen; omega) (by omega) (by have := HBw.out; have := HB2.out.size; simp; omega) ?_))
        intro v2 w3 ho3 hg3 _
        have R : Hid (Rws w B (k + 1) v2 (Rs ++ [.slice (some ⟨gr, 0, none⟩) 1 capr]) w3) := HS.out.step (HB2.out.block) (HS.out.2.2.2.trans (HB2.out.mono HBw.out)) (Nat.le_trans HBw.out HB2.out.size) HM.out ho3 hg3
        clear ho3 hg3 HS HBw HO HM HB2
        go_wp2
        go_roundg (s - (k + 1))
        case measure => have := hkg.out; omega
        case rel => exact ⟨k + 1, _, rfl, by omega, (by omega : k + 1 + (s - (k + 1)) = s), by go_num, _, R.out⟩
      · have ek : k = s := by omega
        rw [ek] at HR
        clear ek
        go_wp2
        go_meet
        case rel => exact HR.out
  case rest =>
  rename World => w1
  obtain ⟨Rs, hR⟩ := hcut
  obtain ⟨gR, cR, rfl, hRA, hgR⟩ := hR.rowsAt (by omega)
  have HBB : Hid (Below B w w1) := hR.2.2.2
  have HRA : Hid (RowsAt w1.heap.size gR s s w1) := hRA
  have HgB : Hid (B ≤ gR) := hgR
  clear hR hRA hgR
  obtain ⟨C, hC⟩ : ∃ C, Hid (w1.heap.size = C) := ⟨_, rfl⟩
  go_wp2_with fail
  refine (none9 w1).mono ?_
  rintro e w' ⟨rfl, hw'⟩
  obtain rfl : w1 = w' := hw'.symm
  clear hw'
  go_upto_block 2 with fail
  go_cut [10, 11] (fun s10 s11 wc => wc.ownsRow C 33 3 s10 n (msF n) ∧ Below C w1 wc)
  case first =>
    go_wp2
    go_loopg [10, 11] n (fun g s10 s11 wr => ∃ (k : Nat) (v10 : Value), v10 = s10 ∧ k ≤ n ∧ Hid (k + g = n) ∧ s11 = .int .i64 k ∧ Hid (wr.ownsRow C 33 3 v10 k (msF k) ∧ Below C w1 wr))
    case atStart => exact ⟨0, _, rfl, by omega, Nat.zero_add _, rfl, World.ownsRow_nil _ _ _ _, Below.refl _ _⟩
    case round =>
      obtain ⟨k, v10, rfl, hk, hkg, rfl, HR⟩ := hrel
      by_cases hlt : k < n
      · have hki : (k : Int) < (n : Int) := by omega
        go_wp2_with fail
        refine (member_any k (-k) wr).mono ?_
        rintro e w2 ⟨rfl, hb1⟩
        have HCr : Hid (C ≤ wr.heap.size) := by have := HR.out.2.size; rw [hC.out] at this; exact this
        have HB1 : Hid (Below wr.heap.size wr w2) := hb1
        have HO : Hid (w2.ownsRow C 33 3 v10 k (msF k)) := owns_of_block HR.out.1 (fun g hg => HB1.out.block g (HR.out.1.lt g hg).2)
        clear hb1
        go_wp2_with (first | (at_builtin; refine wpList_append_own _ rfl (.tmp 59) (.tmp 64) 29 rfl C 33 i33 (.agg #[.slice none 0 0, .int .i64 0, .int .i64 0]) 3 40 Trym.underlying29 HI.out.1 HI.out.2.1 HI.out.2.2.1 HI.out.2.2.2 rfl (by decide) v10 k (msF k) rfl (HO.out.alloc _) ⟨w2.heap.size, 0, none⟩ 1 1 [.slice none 0 0, .int .i64 k, .int .i64 (-k)] rfl rfl (three_new w2 _ _ _ _) (three_one _ _) (by unfold maxLen; omega) (by omega) (by have := HCr.out; have := HB1.out.size; simp; omega) ?_))
        intro v2 w3 ho3 hg3 _
        have R : Hid (w3.ownsRow C 33 3 v2 (k + 1) (msF (k + 1)) ∧ Below C w1 w3) := by
          rw [msF_succ]
          exact ⟨ho3, ((HR.out.2.trans (HB1.out.mono HCr.out)).alloc (Nat.le_trans HCr.out HB1.out.size) _).grown hg3 (by have := HCr.out; have := HB1.out.size; simp; omega) (fun g hg => (HR.out.1.lt g hg).1)⟩
        clear ho3 hg3 HR HCr HO HB1
        go_wp2
        go_roundg (n - (k + 1))
        case measure => have := hkg.out; omega
        case rel => exact ⟨k + 1, _, rfl, by omega, (by omega : k + 1 + (n - (k + 1)) = n), by go_num, R.out⟩
      · have ek : k = n := by omega
        rw [ek] at HR
        clear ek
        go_wp2
        go_meet
        case rel => exact HR.out
  case rest =>
  rename World => w2
  obtain ⟨gm, cm, rfl, hCg, hgm, hncap, hMs⟩ := owns_msAt hcut.1 hn0
  have HBB2 : Hid (Below B w w2) := HBB.out.trans (hcut.2.mono (by have := HBB.out.size; rw [hB.out] at this; have := hC.out; omega))
  have HRA2 : Hid (RowsAt C gR s s w2) := by have h := HRA.out; rw [hC.out] at h; exact h.below hcut.2 (Nat.le_refl _)
  have HMs : Hid (MsAt gm n 0 w2) := hMs
  have HBC : Hid (B ≤ C) := by have := HBB.out.size; rw [hB.out, hC.out] at this; exact this
  clear hcut hMs HRA HBB
  obtain ⟨E, hE⟩ : ∃ E, Hid (w2.heap.size = E) := ⟨_, rfl⟩
  rw [hE.out] at hgm
  go_wp2_with fail
  refine (new_room D gR s cR w2).mono ?_
  rintro e w3 ⟨rfl, h5, h4, h0, hb3, hs3⟩
  rw [hE.out] at h5 h4 h0 hb3 hs3
  rw [hE.out]
  have hgRC : gR < C := HRA2.out.1
  have HR3 : Hid (RowsAt C gR s s w3) := HRA2.out.below hb3 (by omega)
  have HM3 : Hid (MsAt gm n 0 w3) := HMs.out.below hb3 hgm
  have HB3 : Hid (Below B w w3) := HBB2.out.trans (hb3.mono (by have := HBC.out; omega))
  clear HRA2 HMs HBB2
  obtain ⟨v0, hv0⟩ : ∃ v, w3.cell? ⟨gR, d, none⟩ = some v := by
    obtain ⟨g, cap, q1, _⟩ := HR3.out.cell (j := d) hd (by omega)
    exact ⟨_, q1⟩
  have h4' : w3.cell? ⟨E + 1, 4, none⟩ = some (.int .i64 ((d + 1 : Nat) : Int)) := by rw [h4, HD.out]
  have HCL : Hid (Calls Trym.prog 12 _ w3 _) := zzclose_any (E + 1) E gR s cR gm n cm d v0 w3 h5 h0 h4' hd hs hv0 HR3.out.frozen
  clear h4' hv0
  have HS3 : Hid _ := And.intro h5 (And.intro h0 hs3)
  clear h5 h4 h0 hb3 hs3
  go_wp2_with fail
  refine HCL.out.mono ?_
  rintro e w4 ⟨rfl, hw4⟩
  have hbl : ∀ g, g ≠ gR → w4.heap[g]? = w3.heap[g]? := fun g hg => by rw [hw4]; exact Below.heap_setCell w3.drew _ _ g hg
  have HR4 : Hid (RowsAt C gR s d w4) := by rw [hw4]; exact HR3.out.set _ hd
  have HM4 : Hid (MsAt gm n 0 w4) := by obtain ⟨cur, q1, q2⟩ := HM3.out; exact ⟨cur, (hbl gm (by omega)).trans q1, q2⟩
  have HB4 : Hid (Below B w w4) := by rw [hw4]; exact HB3.out.drew.setCell (by exact HgB.out) _
  have H5 : w4.cell? ⟨E + 1, 5, none⟩ = some (.pointer (some ⟨E, 0, none⟩)) := (World.cell?_of_block (hbl (E + 1) (by omega))).trans HS3.out.1
  have H0 : w4.cell? ⟨E, 0, none⟩ = some (.slice (some ⟨gR, 0, none⟩) s cR) := (World.cell?_of_block (hbl E (by omega))).trans HS3.out.2.1
  have hcd : w4.cell? ⟨gR, d, none⟩ = some (.slice (some ⟨gm, 0, none⟩) 0 cm) := by
    rw [hw4]
    obtain ⟨g, cap, q1, _⟩ := HR3.out.cell (j := d) hd (by omega)
    exact World.cell?_setCell_same w3.drew _ _ q1
  have HS4 : Hid (w4.heap.size = E + 2) := by rw [hw4]; simp; exact HS3.out.2.2
  have HRO : Hid (Calls Trym.prog 13 _ w4 _) := rows_any (E + 1) E _ w4 H5 H0
  clear hw4 hbl HCL HS3 HR3 HM3 HB3 H5 H0
  go_wp2_with fail
  refine HRO.out.mono ?_
  rintro e w' ⟨rfl, hw'⟩
  obtain rfl : w4 = w' := hw'.symm
  clear hw' HRO
  have hdi : (d : Int) < (s : Int) := by omega
  go_wp2_with fail
  refine (member_any (-7) (-9) w4).mono ?_
  rintro e w5 ⟨rfl, hb5⟩
  rw [HS4.out] at hb5
  have HR5 : Hid (RowsAt C gR s d w5) := HR4.out.below hb5 (by omega)
  have HM5 : Hid (MsAt gm n 0 w5) := HM4.out.below hb5 (by omega)
  have HB5 : Hid (Below B w w5) := HB4.out.trans (hb5.mono (by have := HBC.out; omega))
  have HS5 : Hid (E + 2 ≤ w5.heap.size) := by have := hb5.size; rw [HS4.out] at this; exact this
  clear hb5 HR4 HM4 HB4 HS4 hcd
  obtain ⟨cur, hcu⟩ : ∃ cur : Array Value, Hid (w5.heap[gm]? = some (.cells cur 33 (0, 0)) ∧ n * 3 ≤ cur.size ∧ ∀ k, 0 ≤ k → k < n → cur[k * 3]? = some (.slice none 0 0) ∧ cur[k * 3 + 1]? = some (.int .i64 (k : Int)) ∧ cur[k * 3 + 2]? = some (.int .i64 (-(k : Int)))) := HM5.out
  clear HM5
  go_wp2_with (first | (at_builtin; refine wpList_append_first _ rfl (.tmp 83) (.tmp 85) 29 rfl 33 i33 Trym.underlying29 HI.out.1 gm cm cur rfl ((Below.heap_alloc w5 _ gm (by have := HS5.out; omega)).trans hcu.out.1) ⟨w5.heap.size, 0, none⟩ 1 [.slice none 0 0, .int .i64 (-7), .int .i64 (-9)] rfl (by simp [HI.out.2.2.1]) (three_new w5 _ _ _ _) (three_one _ _) (by omega) (Nat.le_trans (by simp; omega : _ ≤ n * 3) hcu.out.2.1) ?_))
  intro w6 hw6
  have hP := pushed ((Below.heap_alloc w5 _ gm (by have := HS5.out; omega)).trans hcu.out.1) hcu.out.2.1 hcu.out.2.2 hn0 hw6.out
  clear hw6 hcu
  have HBS : Hid (Below gm w5 w6) := ((Below.refl _ _).alloc (by have := HS5.out; omega) _).trans hP.2.2.1
  have HF : Hid (RowsAt C gR s d w6 ∧ MsAt gm n 1 w6 ∧ Mem w6 gm (-7) (-9)) := ⟨HR5.out.below HBS.out hCg, hP.1, hP.2.1⟩
  have HB6 : Hid (Below B w w6) := HB5.out.trans (HBS.out.mono (by have := HBC.out; omega))
  have HZ6 : Hid (E + 2 ≤ w6.heap.size) := Nat.le_trans HS5.out HBS.out.size
  clear hP HBS HR5 HB5 HS5
  obtain ⟨c0, c1, c2⟩ := HF.out.2.2.cells
  go_wp2_with fail
  refine (start_any (-7) (-9) w6).mono ?_
  rintro e w7 ⟨rfl, hb7⟩
  clear c0 c1 c2
  have HM7 : Mem w7 gm (-7) (-9) := HF.out.2.2.of_block (hb7.block gm (by have := HZ6.out; omega))
  obtain ⟨c0, c1, c2⟩ := HM7.cells
  have HB7 : Hid (Below w6.heap.size w6 w7) := hb7
  clear HM7 hb7
  go_wp2_with fail
  refine (end_any (-7) (-9) w7).mono ?_
  rintro e w8 ⟨rfl, hb8⟩
  have HB8 : Hid (Below w6.heap.size w6 w8) := HB7.out.trans (hb8.mono HB7.out.size)
  clear c0 c1 c2 HB7 hb8
  go_upto_block 4 with fail
  go_cut [15] (fun s15 wc => Below w6.heap.size w6 wc)
  case first =>
    go_wp2
    go_loopg [15] n (fun g s15 wr => ∃ k : Nat, 1 ≤ k ∧ k ≤ n ∧ Hid (k + g = n + 1) ∧ s15 = .int .i64 k ∧ Hid (Below w6.heap.size w6 wr))
    case atStart => exact ⟨1, Nat.le_refl _, by omega, Nat.add_comm _ _, rfl, HB8.out⟩
    case round =>
      obtain ⟨k, hk1, hk, hkg, rfl, HW⟩ := hrel
      by_cases hlt : k < n
      · have hki : (k : Int) < (n : Int) := by omega
        have HMk : Hid (MsAt gm n 1 wr) := HF.out.2.1.below HW.out (by have := HZ6.out; omega)
        have hgw : Hid (gm < wr.heap.size) := by have := HZ6.out; have := HW.out.size; show gm < wr.heap.size; omega
        obtain ⟨c0, c1, c2⟩ := HMk.out.cell hk1 hlt
        go_wp2_with fail
        refine (start_any k (-k) wr).mono ?_
        rintro e wa ⟨rfl, hba⟩
        clear c0 c1 c2
        obtain ⟨c0, c1, c2⟩ := (HMk.out.below hba hgw.out).cell hk1 hlt
        have HWa : Hid (Below w6.heap.size w6 wa) := HW.out.trans (hba.mono HW.out.size)
        clear hba
        go_wp2_with fail
        refine (end_any k (-k) wa).mono ?_
        rintro e wb ⟨rfl, hbb⟩
        have R : Hid (Below w6.heap.size w6 wb) := HWa.out.trans (hbb.mono HWa.out.size)
        clear hbb c0 c1 c2 HW HWa HMk hgw
        go_wp2
        go_roundg (n - k)
        case measure => have := hkg.out; omega
        case rel => exact ⟨k + 1, by omega, by omega, (by omega : k + 1 + (n - k) = n + 1), by go_num, R⟩
      · go_wp2
        go_meet
        case rel => exact HW.out
  case rest =>
  rename World => w9
  have HB9 : Hid (Below w6.heap.size w6 w9) := hcut
  clear hcut HB8
  go_wp2
  go_loopg [16] s (fun g s16 wr => ∃ j : Nat, j ≤ s ∧ Hid (j + g = s) ∧ s16 = .int .i64 j ∧ Hid (Below w6.heap.size w6 wr))
  case atStart => exact ⟨0, by omega, Nat.zero_add _, rfl, HB9.out⟩
  case round =>
    obtain ⟨j, hj, hjg, rfl, HW⟩ := hrel
    by_cases hlt : j < s
    · have hji : (j : Int) < (s : Int) := by omega
      by_cases hjd : j = d
      · have t1 : ((j : Int) == (d : Int)) = true := by simp [hjd]
        clear hjd
        go_wp2
        go_roundg (s - (j + 1))
        case measure => have := hjg.out; omega
        case rel => exact ⟨j + 1, by omega, (by omega : j + 1 + (s - (j + 1)) = s), by go_num, HW⟩
      · have t1 : ((j : Int) == (d : Int)) = false := by simp; omega
        have hCr : Hid (C ≤ w6.heap.size) := by have := HZ6.out; show C ≤ w6.heap.size; omega
        have HRj : Hid (RowsAt C gR s d wr) := HF.out.1.below HW.out hCr.out
        obtain ⟨g, cap, q0, q1, q2, q3⟩ := HRj.out.cell hlt hjd
        go_wp2_with fail
        refine (start_any j j wr).mono ?_
        rintro e wa ⟨rfl, hba⟩
        clear q0 q1 q2 q3
        have HWa : Hid (Below w6.heap.size w6 wa) := HW.out.trans (hba.mono HW.out.size)
        clear hba
        obtain ⟨g', cap', q0, q1, q2, q3⟩ := (HF.out.1.below HWa.out hCr.out).cell hlt hjd
        go_wp2_with fail
        refine (end_any j j wa).mono ?_
        rintro e wb ⟨rfl, hbb⟩
        have R : Hid (Below w6.heap.size w6 wb) := HWa.out.trans (hbb.mono HWa.out.size)
        clear hbb q0 q1 q2 q3 HW HWa HRj hCr
        go_wp2
        go_roundg (s - (j + 1))
        case measure => have := hjg.out; omega
        case rel => exact ⟨j + 1, by omega, (by omega : j + 1 + (s - (j + 1)) = s), by go_num, R⟩
    · have R : Hid (Below B w wr) := HB6.out.trans (HW.out.mono (by have := HZ6.out; have := HBC.out; omega))
      clear HW
      go_wp2
      go_ret
      rw [hB.out]
      exact ⟨rfl, R.out⟩
end Go.Proofs.Qxb6612479aMods.Mem
