/-
  THE LAW FnDeliveriesPushKeepsAHeapOfAllPushed: envSameMultiset and the law's own walk.
-/
import Derived.Test.Qxb6609212aModsSortWalk
namespace Go.Proofs.Qxb6609212aMods.Env
open Go.RowKit
set_option linter.unusedVariables false

set_option maxRecDepth 100000 in
set_option maxHeartbeats 1000000 in
theorem same_any (b0 off0 b1 off1 n cap0 cap1 : Nat) (A B : List E) (w : World) (hA : A.length = n) (hB : B.length = n) (hn0 : 0 < n) (hn1 : n ≤ 16384) (hb0 : b0 < w.heap.size) (hb1 : b1 < w.heap.size)
    (hc0 : ∀ i, i < n → At5 w b0 off0 i (get A i)) (hc1 : ∀ i, i < n → At5 w b1 off1 i (get B i)) (hs : isort A (n - 1) = isort B (n - 1)) :
    Calls Trym.prog 12 #[.slice (some ⟨b0, off0, none⟩) n cap0, .slice (some ⟨b1, off1, none⟩) n cap1] w fun e w' => e = .returned (.bool true) ∧ Below w.heap.size w w' := by
  have H1 : Hid (Calls Trym.prog 20 _ w _) := sorted_any b0 off0 n cap0 A w hA hn0 hn1 hb0 hc0
  have HS : Hid (isort A (n - 1) = isort B (n - 1)) := hs
  have H2 : Hid (∀ w1, Below w.heap.size w w1 → Calls Trym.prog 20 #[.slice (some ⟨b1, off1, none⟩) n cap1] w1 fun e w' => e = .returned (.slice (some ⟨w1.heap.size, 0, none⟩) n n) ∧ w'.rowIs w1.heap.size 29 (n * 5) (row5F (isort B (n - 1))) ∧ Below w1.heap.size w1 w') := fun w1 hw =>
    sorted_any b1 off1 n cap1 B w1 hB hn0 hn1 (by have := hw.size; omega) (fun i hi => (hc1 i hi).below hw hb1)
  have tt : ((n : Int) != (n : Int)) = false := by simp
  clear hc0 hc1 hs hA hB
  go_enter Trym.func12, Trym.ntmps12
  go_wp2_with fail
  refine H1.out.mono ?_
  clear H1
  rintro e w1 ⟨rfl, hr1, hw1⟩
  have K2 := H2.out w1 hw1
  have HR1 : Hid (w1.rowIs w.heap.size 29 (n * 5) (row5F (isort B (n - 1))) ∧ Below w.heap.size w w1) := ⟨by rw [← HS.out]; exact hr1, hw1⟩
  have hz1 := hr1.lt
  have HK2 : Hid (Calls Trym.prog 20 _ w1 _) := K2
  clear hr1 hw1 K2 H2
  go_wp2_with fail
  refine HK2.out.mono ?_
  clear HK2
  rintro e w2 ⟨rfl, hr2, hw2⟩
  obtain ⟨g0, hg0⟩ : ∃ g, Hid (w.heap.size = g) := ⟨_, rfl⟩
  obtain ⟨g1, hg1⟩ : ∃ g, Hid (w1.heap.size = g) := ⟨_, rfl⟩
  rw [hg0.out] at HR1 hz1
  rw [hg1.out] at hr2 hw2 hz1
  rw [hg0.out, hg1.out]
  obtain ⟨T, hT⟩ : ∃ T, Hid (isort B (n - 1) = T) := ⟨_, rfl⟩
  rw [hT.out] at HR1 hr2
  have HR : Hid (w2.rowIs g0 29 (n * 5) (row5F T) ∧ w2.rowIs g1 29 (n * 5) (row5F T) ∧ Below g0 w w2) := ⟨HR1.out.1.of_block (hw2.block g0 hz1), hr2, HR1.out.2.trans (hw2.mono (by omega))⟩
  clear HR1 hr2 hw2
  go_wp2
  go_loopg [7] n (fun g s7 wr => ∃ k : Nat, k ≤ n ∧ Hid (k + g = n) ∧ s7 = .int .i64 k ∧ ∃ nq, wr = w2.drewN nq)
  case atStart => exact ⟨0, by omega, Nat.zero_add _, rfl, 0, rfl⟩
  case round =>
    obtain ⟨k, hk, hkg, rfl, nq, rfl⟩ := hrel
    by_cases hlt : k < n
    · obtain ⟨c0, c1, c2, c3, c4⟩ := row5_at HR.out.1 hlt
      obtain ⟨d0, d1, d2, d3, d4⟩ := row5_at HR.out.2.1 hlt
      simp only [Nat.zero_add] at c0 c1 c2 c3 c4 d0 d1 d2 d3 d4
      obtain ⟨⟨x0, x1, x2, x3, x4⟩, hE⟩ : ∃ e, Hid (get T k = e) := ⟨_, rfl⟩
      rw [hE.out] at c0 c1 c2 c3 c4 d0 d1 d2 d3 d4
      have hki : (k : Int) < (n : Int) := by omega
      go_wp2
      go_quiet (fail)
      go_wp2
      go_roundg (n - (k + 1))
      case measure => have := hkg.out; omega
      case rel => exact ⟨k + 1, by omega, (by omega : k + 1 + (n - (k + 1)) = n), by go_num, _, rfl⟩
    · go_wp2
      go_ret
      rw [hg0.out]
      exact ⟨rfl, HR.out.2.2.os, HR.out.2.2.tape, HR.out.2.2.output, HR.out.2.2.size, HR.out.2.2.block⟩

set_option maxRecDepth 100000 in
set_option maxHeartbeats 2000000 in
theorem all_main (b off m cap : Nat) (es : List E) (w : World) (hm : es.length = m) (hm0 : 0 < m) (hm1 : m ≤ 4096) (hb : b < w.heap.size)
    (hc : ∀ i, i < m → At5 w b off i (es.getD i zero)) :
    Calls Trym.prog 3 #[.slice (some ⟨b, off, none⟩) m cap] w fun e w' => e = .returned (.bool true) ∧ Below w.heap.size w w' := by
  have H5 : Hid (Calls Trym.prog 6 _ w _) := bytes6 (some ⟨b, off, none⟩) m cap w (by unfold maxLen; omega)
  have HM : Hid (es.length = m) := hm
  have HC : Hid (∀ i, i < m → At5 w b off i (get es i)) := hc
  have t0 : decide ((4096 : Int) < (m : Int)) = false := decide_eq_false (by omega)
  clear hm hc
  go_enter Trym.func3, Trym.ntmps3
  go_wp2_with fail
  refine H5.out.mono ?_
  clear H5
  rintro e w' ⟨⟨ok, rfl⟩, hw⟩
  obtain rfl : w = w' := hw.symm
  cases ok with
  | false =>
    go_wp2
    go_ret
    exact ⟨rfl, Below.refl _ _⟩
  | true =>
  go_wp2_with fail
  refine (hnew_any w).mono ?_
  rintro e w1 ⟨rfl, hq1, hb1⟩
  obtain ⟨Q, hQ⟩ : ∃ Q, Hid (w.heap.size = Q) := ⟨_, rfl⟩
  rw [hQ.out] at hq1 hb1 hb
  rw [hQ.out]
  have H1 : Hid (Hp Q Q [] w1 ∧ Below Q w w1) := ⟨hq1, hb1⟩
  clear hq1 hb1
  go_upto_block 0 with fail
  go_cut [4] (fun i wc => Hp Q Q (pushAll es m) wc ∧ Below Q w wc)
  case first =>
    go_wp2
    go_loopg [4] m (fun g s4 wr => ∃ k : Nat, k ≤ m ∧ Hid (k + g = m) ∧ s4 = .int .i64 k ∧ Hp Q Q (pushAll es k) wr ∧ Below Q w wr)
    case atStart => exact ⟨0, by omega, Nat.zero_add _, rfl, H1.out⟩
    case round =>
      obtain ⟨k, hk, hkg, rfl, hq, hbw⟩ := hrel
      clear H1
      by_cases hlt : k < m
      · obtain ⟨c0, c1, c2, c3, c4⟩ := (HC.out k hlt).below hbw (by exact hb)
        have HLen := pushAll_length es k
        have HP : Hid (pushL (pushAll es k) (get es k) = pushAll es (k + 1)) := rfl
        obtain ⟨⟨x0, x1, x2, x3, x4⟩, hE⟩ : ∃ e, Hid (get es k = e) := ⟨_, rfl⟩
        rw [hE.out] at c0 c1 c2 c3 c4 HP
        have HQ : Hid (Hp Q Q (pushAll es k) wr ∧ Below Q w wr) := ⟨hq, hbw⟩
        have hS : (pushAll es k).length ≤ 32768 := by omega
        have hki : (k : Int) < (m : Int) := by omega
        clear hq hbw HLen
        go_upto_region 9 with fail
        go_region_held3 (fun w' => w'.cell? ⟨b, off + k * 5, none⟩ = some (.int .u64 x0) ∧ w'.cell? ⟨b, off + k * 5 + 1, none⟩ = some (.int .u64 x1) ∧ w'.cell? ⟨b, off + k * 5 + 2, none⟩ = some (.int .u64 x2) ∧ w'.cell? ⟨b, off + k * 5 + 3, none⟩ = some (.int .i64 x3) ∧ w'.cell? ⟨b, off + k * 5 + 4, none⟩ = some (.int .i64 x4)) (go_keep)
          (first | (go_at_call 8; refine (zzhpush_any Q Q (pushAll es k) x0 x1 x2 x3 x4 _ hS (by exact HQ.out.1)).mono ?_; rintro e w' ⟨rfl, hq', hb'⟩; obtain ⟨d0, d1, d2, d3, d4⟩ := (At5.below (w := wr.drew) (i := k) (e := (x0, x1, x2, x3, x4)) ⟨c0, c1, c2, c3, c4⟩ hb' hb)))
        have R : Hid (Hp Q Q (pushAll es (k + 1)) w' ∧ Below Q w w') := by
          rw [HP.out] at hq'
          exact ⟨hq', HQ.out.2.drew.trans hb'⟩
        clear hq' hb' HQ d0 d1 d2 d3 d4 c0 c1 c2 c3 c4
        go_wp2
        go_roundg (m - (k + 1))
        case measure => have := hkg.out; omega
        case rel => exact ⟨k + 1, by omega, (by omega : k + 1 + (m - (k + 1)) = m), by go_num, R.out⟩
      · have ek : k = m := by omega
        rw [ek] at hq
        have R : Hid _ := And.intro hq hbw
        clear hq hbw ek
        go_wp2
        go_meet
        case rel => exact R.out
  case rest =>
  rename World => w2
  obtain ⟨hq2, hb2⟩ := hcut
  have HTL := pushAll_length es m
  have HTH := pushAll_heap es m
  have HTP := pushAll_perm es m (by rw [HM.out]; exact Nat.le_refl _)
  rw [List.take_of_length_le (by rw [HM.out]; exact Nat.le_refl _)] at HTP
  obtain ⟨T, hT⟩ : ∃ T, Hid (pushAll es m = T) := ⟨_, rfl⟩
  rw [hT.out] at hq2 HTL HTH HTP
  have HT : Hid (T.length = m ∧ Heap T ∧ T.Perm es) := ⟨HTL, HTH, HTP⟩
  have h9 := hlen_any Q Q T w2 hq2
  rw [HTL] at h9
  have hHL : Hid (Calls Trym.prog 9 _ w2 _) := h9
  clear h9
  have H2 : Hid (Hp Q Q T w2 ∧ Below Q w w2) := ⟨hq2, hb2⟩
  have hQw2 : Q ≤ w2.heap.size := by have := hb2.size; have := hQ.out; omega
  have tt : ((m : Int) != (m : Int)) = false := by simp
  clear hq2 hb2 HTL HTH HTP H1
  obtain ⟨i29, hi, hz0, hz1, hz2⟩ := info_parts Trym.info29
  go_wp2_with fail
  refine hHL.out.mono ?_
  rintro e w' ⟨rfl, hw'⟩
  obtain rfl : w2 = w' := hw'.symm
  clear hw' hHL
  go_upto_block 2 with (first | (at_make; refine wpList_make_full _ rfl _ _ 22 rfl w2.heap.size 29 i29 (.agg #[.int .u64 0, .int .u64 0, .int .u64 0, .int .i64 0, .int .i64 0]) 5 Trym.underlying22 hi hz0 hz1 _ _ _ _ m rfl rfl rfl rfl ?_ ?_ ?_ ?_))
  · rw [hz2]; omega
  · unfold maxLen; omega
  · exact Nat.le_refl _
  intro w3 ho3 hg3
  obtain ⟨G, hG⟩ : ∃ G, Hid (w2.heap.size = G) := ⟨_, rfl⟩
  have H3 : Hid (w3.rowIs w2.heap.size 29 (m * 5) (row5F []) ∧ Below w2.heap.size w2 w3) := ⟨owns_row ho3 (made_zero5 m), (Below.refl _ _).grown hg3 (Nat.le_refl _) (by intro k h; cases h)⟩
  rw [hG.out] at H3 hQw2
  rw [hG.out]
  clear ho3 hg3 hi hz0 hz1 hz2
  go_upto_block 2 with fail
  go_cut [7] (fun s7 wc => wc.rowIs G 29 (m * 5) (row5F T) ∧ Below G w2 wc)
  case first =>
    go_wp2
    go_loopg [7] m (fun g s7 wr => ∃ k : Nat, k ≤ m ∧ Hid (k + g = m) ∧ s7 = .int .i64 k ∧ wr.rowIs G 29 (m * 5) (row5F (T.take k)) ∧ Below G w2 wr)
    case atStart => exact ⟨0, by omega, Nat.zero_add _, rfl, H3.out.1, H3.out.2⟩
    case round =>
      obtain ⟨k, hk, hkg, rfl, hr, hbw⟩ := hrel
      clear H3
      by_cases hlt : k < m
      · have HA : Hid (Calls Trym.prog 10 _ wr _) := hat_any Q Q k T wr (H2.out.1.below (by rw [hG.out]; exact hbw)) (by rw [HT.out.1]; exact hlt) (by rw [HT.out.1]; omega)
        have hkl : (T.take k).length = k := by have := HT.out.1; simp; omega
        have HRK : Hid (∀ wx, Below wr.heap.size wr wx → (put5 wx G k (get T k)).rowIs G 29 (m * 5) (row5F (T.take (k + 1))) ∧ Below G w2 (put5 wx G k (get T k)) ∧ wx.rowIs G 29 (m * 5) (row5F (T.take k))) := fun wx hwx => by
          have k1 : wx.rowIs G 29 (m * 5) (row5F (T.take k)) := hr.of_block (hwx.block G hr.lt)
          have := row5_app k1 (get T k)
          rw [hkl, take_snoc' T k (by have := HT.out.1; omega)] at this
          exact ⟨this, put5_below (hbw.trans (hwx.mono (Nat.le_of_lt hr.lt))) (Nat.le_refl _) _ _, k1⟩
        obtain ⟨⟨x0, x1, x2, x3, x4⟩, hE⟩ : ∃ e, Hid (get T k = e) := ⟨_, rfl⟩
        rw [hE.out] at HA HRK
        have hki : (k : Int) < (m : Int) := by omega
        clear hr hbw hkl
        go_wp2_with fail
        refine HA.out.mono ?_
        rintro e w' ⟨rfl, hb'⟩
        have K := HRK.out w' hb'
        obtain ⟨v0, d0⟩ : ∃ v, w'.cell? ⟨G, k * 5, none⟩ = some v := ⟨_, K.2.2.cell (by omega)⟩
        obtain ⟨v1, d1⟩ : ∃ v, w'.cell? ⟨G, k * 5 + 1, none⟩ = some v := ⟨_, K.2.2.cell (by omega)⟩
        obtain ⟨v2, d2⟩ : ∃ v, w'.cell? ⟨G, k * 5 + 2, none⟩ = some v := ⟨_, K.2.2.cell (by omega)⟩
        obtain ⟨v3, d3⟩ : ∃ v, w'.cell? ⟨G, k * 5 + 3, none⟩ = some v := ⟨_, K.2.2.cell (by omega)⟩
        obtain ⟨v4, d4⟩ : ∃ v, w'.cell? ⟨G, k * 5 + 4, none⟩ = some v := ⟨_, K.2.2.cell (by omega)⟩
        have hfz : ∀ j, w'.frozen? ⟨G, j, none⟩ = false := K.2.2.frozen
        have R : Hid _ := And.intro K.1 K.2.1
        clear K hb' HRK HA
        go_wp2
        go_roundg (m - (k + 1))
        case measure => have := hkg.out; omega
        case rel => exact ⟨k + 1, by omega, (by omega : k + 1 + (m - (k + 1)) = m), by go_num, R.out.1, R.out.2⟩
      · have ek : k = m := by omega
        rw [ek, List.take_of_length_le (by rw [HT.out.1]; exact Nat.le_refl _)] at hr
        have R : Hid _ := And.intro hr hbw
        clear hr hbw ek
        go_wp2
        go_meet
        case rel => exact R.out
  case rest =>
  rename World => w4
  obtain ⟨hr4, hb4⟩ := hcut
  have H4 : Hid (w4.rowIs G 29 (m * 5) (row5F T) ∧ Below Q w w4) := ⟨hr4, H2.out.2.trans (hb4.mono (by have := hG.out; omega))⟩
  clear hr4 hb4 H3 H2
  go_wp2
  go_loopg [13] m (fun g s13 wr => ∃ k : Nat, 1 ≤ k ∧ k ≤ m ∧ Hid (k + g = m + 1) ∧ s13 = .int .i64 k ∧ Below w4.heap.size w4 wr)
  case atStart => exact ⟨1, Nat.le_refl _, by omega, Nat.add_comm _ _, rfl, Below.refl _ _⟩
  case round =>
    obtain ⟨k, hk1, hk, hkg, rfl, hbw⟩ := hrel
    have HR : Hid (wr.rowIs G 29 (m * 5) (row5F T) ∧ Below w4.heap.size w4 wr) := ⟨H4.out.1.of_block (hbw.block G H4.out.1.lt), hbw⟩
    by_cases hlt : k < m
    · obtain ⟨p, hp⟩ : ∃ p : Nat, (k - 1) / 2 = p := ⟨_, rfl⟩
      have hpI : ((k : Int) - 1) / 2 = (p : Int) := by omega
      have hpm : p < m := by omega
      obtain ⟨c0, c1, c2, c3, c4⟩ := row5_at HR.out.1 hlt
      obtain ⟨d0, d1, d2, d3, d4⟩ := row5_at HR.out.1 hpm
      simp only [Nat.zero_add] at c0 c1 c2 c3 c4 d0 d1 d2 d3 d4
      have hkl : Hid (keyLess (get T k) (get T p) = false) := by rw [← hp]; exact HT.out.2.1 k (by omega) (by rw [HT.out.1]; exact hlt)
      obtain ⟨⟨x0, x1, x2, x3, x4⟩, hE⟩ : ∃ e, Hid (get T k = e) := ⟨_, rfl⟩
      obtain ⟨⟨y0, y1, y2, y3, y4⟩, hE2⟩ : ∃ e, Hid (get T p = e) := ⟨_, rfl⟩
      rw [hE.out] at c0 c1 c2 c3 c4 hkl
      rw [hE2.out] at d0 d1 d2 d3 d4 hkl
      have hki : (k : Int) < (m : Int) := by omega
      have hpi : (p : Int) < (m : Int) := by omega
      have hwr : IntKind.i64.wrap (p : Int) = (p : Int) := wrap_nat (by omega)
      obtain ⟨q, hq⟩ : ∃ q : Nat, (k : Int) - 1 = (q : Int) := ⟨k - 1, by omega⟩
      have hwq : IntKind.i64.wrap (q : Int) = (q : Int) := wrap_nat (by omega)
      have hdiv : (q : Int) / 2 = (p : Int) := by omega
      have htd : (q : Int).tdiv 2 = (p : Int) := by rw [Int.tdiv_eq_ediv_of_nonneg (by omega)]; exact hdiv
      clear hpI
      have HK := fun wx => key_any x0 x1 x2 x3 x4 y0 y1 y2 y3 y4 wx
      rw [hkl.out] at HK
      have HKK : Hid (∀ wx, Calls Trym.prog 11 #[.agg #[.int .u64 x0, .int .u64 x1, .int .u64 x2, .int .i64 x3, .int .i64 x4], .agg #[.int .u64 y0, .int .u64 y1, .int .u64 y2, .int .i64 y3, .int .i64 y4]] wx fun e w' => e = .returned (.bool false) ∧ Below wx.heap.size wx w') := HK
      clear HK hbw hp
      go_upto_region 22 with fail
      go_cut [100] (fun s100 wc => s100 = .bool false ∧ Below w4.heap.size w4 wc)
      case first =>
        go_region_with (go_at_call 11; refine (HKK.out _).mono ?_; rintro e w' ⟨rfl, hb'⟩)
        all_goals
          have R : Hid (Below w4.heap.size w4 w') := HR.out.2.trans (Below.mono (B := wr.heap.size) ⟨hb'.os, hb'.tape, hb'.output, hb'.size, hb'.block⟩ HR.out.2.size)
          clear hb'
          go_wp2
          go_meet
          case rel => exact ⟨rfl, R.out⟩
      case rest =>
      rename World => w5
      obtain ⟨rfl, hb5⟩ := hcut
      have R : Hid (Below w4.heap.size w4 w5) := hb5
      clear hb5 HR c0 c1 c2 c3 c4 d0 d1 d2 d3 d4 HKK
      go_wp2
      go_roundg (m - k)
      case measure => have := hkg.out; omega
      case rel => exact ⟨k + 1, by omega, by omega, (by omega : k + 1 + (m - k) = m + 1), by go_num, R.out⟩
    · have hQ4 : Q ≤ w4.heap.size := by have := H4.out.2.size; have := hQ.out; omega
      have HB : Hid (Below Q w wr) := H4.out.2.trans (hbw.mono hQ4)
      have HS : Hid (Calls Trym.prog 12 _ wr _) := same_any G 0 b off m m cap T es wr HT.out.1 HM.out hm0 (by omega) HR.out.1.lt (by have := HB.out.size; have := hQ.out; omega)
        (fun i hi => row5_at HR.out.1 hi) (fun i hi => (HC.out i hi).below HB.out (by exact hb)) (by have := isort_eq T es HT.out.2.2 (by rw [HT.out.1]; exact hm0); rw [HT.out.1, HM.out] at this; exact this)
      have hQr : Q ≤ wr.heap.size := by have := hbw.size; omega
      clear hbw HR
      go_wp2_with fail
      refine HS.out.mono ?_
      rintro e w' ⟨rfl, hb'⟩
      have R : Hid (Below Q w w') := HB.out.trans (hb'.mono hQr)
      clear hb' HS HB
      go_wp2
      go_ret
      rw [hQ.out]
      exact ⟨rfl, R.out⟩
end Go.Proofs.Qxb6609212aMods.Env
