/-
  THE LAW FnDeliveriesTopIsTheEarliestOfTheLeast: its walk.
-/
import Derived.Test.Qxb6609212aModsHeapLaw
import Derived.Deep.RegionWith
namespace Go.Proofs.Qxb6609212aMods.Env
open Go.RowKit
set_option linter.unusedVariables false

/-- best as the loop holds it at the head of round k. -/
def bst (es : List E) (k : Nat) : Nat := if k = 0 then 0 else best es (k - 1)
theorem bst_step (es : List E) (k : Nat) : best es k = if keyLess (get es k) (get es (bst es k)) = true then k else bst es k := by
  unfold bst
  by_cases h : k = 0
  · subst h; rw [if_pos rfl, keyLess_irrefl]; simp [best]
  · obtain ⟨j, rfl⟩ : ∃ j, k = j + 1 := ⟨k - 1, by omega⟩
    rw [if_neg h, best]; rfl
theorem bst_lt (es : List E) (k m : Nat) (h : k < m) : bst es k < m := by
  unfold bst; split
  · omega
  · have := best_le es (k - 1); omega
theorem bst_succ (es : List E) (k : Nat) : bst es (k + 1) = best es k := by simp [bst]

set_option maxRecDepth 100000 in
set_option maxHeartbeats 2000000 in
theorem top_main (b off m cap : Nat) (es : List E) (w : World) (hm : es.length = m) (hm0 : 0 < m) (hm1 : m ≤ 16384) (hb : b < w.heap.size)
    (hc : ∀ i, i < m → At5 w b off i (es.getD i zero)) :
    Calls Trym.prog 4 #[.slice (some ⟨b, off, none⟩) m cap] w fun e w' => e = .returned (.bool true) ∧ Below w.heap.size w w' := by
  have H5 : Hid (Calls Trym.prog 13 _ w _) := bytes13 (some ⟨b, off, none⟩) m cap w (by unfold maxLen; omega)
  have HM : Hid (es.length = m) := hm
  have HC : Hid (∀ i, i < m → At5 w b off i (get es i)) := hc
  have t0 : decide ((16384 : Int) < (m : Int)) = false := decide_eq_false (by omega)
  clear hm hc
  go_enter Trym.func4, Trym.ntmps4
  go_wp2_with fail
  refine H5.out.mono ?_
  clear H5
  rintro e w' ⟨⟨ok, rfl⟩, hw⟩
  obtain rfl : w = w' := hw.symm
  cases ok with
  | false =>
    go_wp2
    go_ret
    exact ⟨rfl, Below.refl _ _⟩
  | true =>
  go_wp2_with fail
  refine (hnew_any w).mono ?_
  rintro e w1 ⟨rfl, hq1, hb1⟩
  obtain ⟨Q, hQ⟩ : ∃ Q, Hid (w.heap.size = Q) := ⟨_, rfl⟩
  rw [hQ.out] at hq1 hb1 hb
  rw [hQ.out]
  have H1 : Hid (Hp Q Q [] w1 ∧ Below Q w w1) := ⟨hq1, hb1⟩
  clear hq1 hb1
  go_wp2
  go_loopg [4, 5] m (fun g s4 s5 wr => ∃ k : Nat, k ≤ m ∧ Hid (k + g = m) ∧ s5 = .int .i64 k ∧ s4 = .int .i64 (bst es k) ∧ Hp Q Q (pushAll es k) wr ∧ Below Q w wr)
  case atStart => exact ⟨0, by omega, Nat.zero_add _, rfl, rfl, H1.out⟩
  case round =>
    obtain ⟨k, hk, hkg, rfl, rfl, hq, hbw⟩ := hrel
    clear H1
    by_cases hlt : k < m
    · obtain ⟨c0, c1, c2, c3, c4⟩ := (HC.out k hlt).below hbw (by exact hb)
      have hbb := bst_lt es k m hlt
      have hst : Hid (best es k = if keyLess (get es k) (get es (bst es k)) = true then k else bst es k) := bst_step es k
      have HLen := pushAll_length es k
      have HT : Hid (get (pushAll es (k + 1)) 0 = get es (best es k) ∧ (pushAll es (k + 1)).length = k + 1 ∧ best es k < m) := ⟨top_all es k, pushAll_length es (k + 1), by have := best_le es k; omega⟩
      have HP : Hid (pushL (pushAll es k) (get es k) = pushAll es (k + 1)) := rfl
      obtain ⟨bk, hbk⟩ : ∃ bk, Hid (bst es k = bk) := ⟨_, rfl⟩
      rw [hbk.out] at hst hbb
      rw [hbk.out]
      have HCK : Hid (At5 w b off k (get es k) ∧ At5 w b off bk (get es bk)) := ⟨HC.out k hlt, HC.out bk hbb⟩
      obtain ⟨⟨x0, x1, x2, x3, x4⟩, hE⟩ : ∃ e, Hid (get es k = e) := ⟨_, rfl⟩
      rw [hE.out] at c0 c1 c2 c3 c4 HP hst HCK
      obtain ⟨⟨y0, y1, y2, y3, y4⟩, hE2⟩ : ∃ e, Hid (get es bk = e) := ⟨_, rfl⟩
      rw [hE2.out] at hst HCK
      have HQ : Hid (Hp Q Q (pushAll es k) wr ∧ Below Q w wr) := ⟨hq, hbw⟩
      have hS : (pushAll es k).length ≤ 32768 := by omega
      have hki : (k : Int) < (m : Int) := by omega
      have hbi : (bk : Int) < (m : Int) := by omega
      clear hq hbw HLen
      go_upto_region 10 with fail
      go_cut [50] (fun s50 wc => Hp Q Q (pushAll es (k + 1)) wc ∧ Below Q w wc)
      case first =>
        go_region_held3 (fun w' => w'.cell? ⟨b, off + k * 5, none⟩ = some (.int .u64 x0) ∧ w'.cell? ⟨b, off + k * 5 + 1, none⟩ = some (.int .u64 x1) ∧ w'.cell? ⟨b, off + k * 5 + 2, none⟩ = some (.int .u64 x2) ∧ w'.cell? ⟨b, off + k * 5 + 3, none⟩ = some (.int .i64 x3) ∧ w'.cell? ⟨b, off + k * 5 + 4, none⟩ = some (.int .i64 x4)) (go_keep)
          (first | (go_at_call 8; refine (zzhpush_any Q Q (pushAll es k) x0 x1 x2 x3 x4 _ hS (by exact HQ.out.1)).mono ?_; rintro e w' ⟨rfl, hq', hb'⟩; obtain ⟨d0, d1, d2, d3, d4⟩ := (At5.below (w := wr.drew) (i := k) (e := (x0, x1, x2, x3, x4)) ⟨c0, c1, c2, c3, c4⟩ hb' hb)))
        have R : Hid (Hp Q Q (pushAll es (k + 1)) w' ∧ Below Q w w') := by
          rw [HP.out] at hq'
          exact ⟨hq', HQ.out.2.drew.trans hb'⟩
        clear hq' hb' HQ d0 d1 d2 d3 d4 c0 c1 c2 c3 c4
        go_wp2
        go_meet
        case rel => exact R.out
      case rest =>
      rename World => w2
      obtain ⟨hq2, hb2⟩ := hcut
      clear c0 c1 c2 c3 c4
      obtain ⟨c0, c1, c2, c3, c4⟩ := HCK.out.1.below hb2 (by exact hb)
      obtain ⟨e0, e1, e2, e3, e4⟩ := HCK.out.2.below hb2 (by exact hb)
      have H2 : Hid (Hp Q Q (pushAll es (k + 1)) w2 ∧ Below Q w w2) := ⟨hq2, hb2⟩
      have hQw : Q ≤ w2.heap.size := by have := hb2.size; have := hQ.out; omega
      clear hq2 hb2 HQ hS
      go_upto_region 11 with fail
      go_cut [59] (fun s59 wc => s59 = .bool (keyLess (x0, x1, x2, x3, x4) (y0, y1, y2, y3, y4)) ∧ Below w2.heap.size w2 wc)
      case first =>
        go_region_with (go_at_call 11; refine (key_any x0 x1 x2 x3 x4 y0 y1 y2 y3 y4 _).mono ?_; rintro e w' ⟨rfl, hb'⟩)
        all_goals
          have R : Hid (Below w2.heap.size w2 w') := ⟨hb'.os, hb'.tape, hb'.output, hb'.size, hb'.block⟩
          clear hb'
          go_wp2
          go_meet
          case rel => exact ⟨rfl, R.out⟩
      case rest =>
      rename World => w3
      obtain ⟨rfl, hb3⟩ := hcut
      have H3 : Hid (Hp Q Q (pushAll es (k + 1)) w3 ∧ Below Q w w3) := ⟨H2.out.1.below hb3, H2.out.2.trans (hb3.mono hQw)⟩
      clear hb3 c0 c1 c2 c3 c4 e0 e1 e2 e3 e4 H2
      obtain ⟨nb, hnb⟩ : ∃ nb, Hid (best es k = nb) := ⟨_, rfl⟩
      rw [hnb.out] at hst HT
      go_upto_if 59 with fail
      go_cut [4] (fun s4 wc => s4 = .int .i64 nb ∧ wc = w3)
      case first =>
        cases hkl : keyLess (x0, x1, x2, x3, x4) (y0, y1, y2, y3, y4) with
        | false =>
          rw [hkl] at hst
          have hn : Hid (nb = bk) := by show _ = _; simpa using hst.out
          clear hst
          go_wp2
          go_meet
          case rel => exact ⟨by rw [hn.out], rfl⟩
        | true =>
          rw [hkl] at hst
          have hn : Hid (nb = k) := by show _ = _; simpa using hst.out
          clear hst
          go_wp2
          go_meet
          case rel => exact ⟨by rw [hn.out], rfl⟩
      case rest =>
      rename World => w4
      obtain ⟨rfl, hw4⟩ := hcut
      obtain rfl : w3 = w4 := hw4.symm
      clear hw4 hst
      have hHL : Hid (Calls Trym.prog 9 _ w3 _) := hlen_any Q Q (pushAll es (k + 1)) w3 H3.out.1
      rw [HT.out.2.1] at hHL
      have hHA : Hid (Calls Trym.prog 10 _ w3 _) := hat_any Q Q 0 (pushAll es (k + 1)) w3 H3.out.1 (by rw [HT.out.2.1]; omega) (by rw [HT.out.2.1]; omega)
      rw [HT.out.1] at hHA
      have h5 := HC.out nb HT.out.2.2
      obtain ⟨⟨z0, z1, z2, z3, z4⟩, hE3⟩ : ∃ e, Hid (get es nb = e) := ⟨_, rfl⟩
      rw [hE3.out] at h5 hHA
      have tt : (((k + 1 : Nat) : Int) != (k : Int) + 1) = false := by simp
      have hnbi : (nb : Int) < (m : Int) := by have := HT.out.2.2; omega
      go_wp2_with fail
      refine hHL.out.mono ?_
      rintro e w' ⟨rfl, hw'⟩
      obtain rfl : w3 = w' := hw'.symm
      clear hw' hHL
      go_wp2_with fail
      refine hHA.out.mono ?_
      rintro e w' ⟨rfl, hb'⟩
      have HB : Hid (Hp Q Q (pushAll es (k + 1)) w' ∧ Below Q w w') := ⟨H3.out.1.below hb', H3.out.2.trans (hb'.mono (by have := H3.out.2.size; have := hQ.out; omega))⟩
      obtain ⟨c0, c1, c2, c3, c4⟩ := h5.below HB.out.2 (by exact hb)
      have HBS : Hid (bst es (k + 1) = nb) := by rw [bst_succ]; exact hnb.out
      clear hb' hHA h5
      go_wp2
      go_roundg (m - (k + 1))
      case measure => have := hkg.out; omega
      case rel => exact ⟨k + 1, by omega, (by omega : k + 1 + (m - (k + 1)) = m), by go_num, by rw [HBS.out], HB.out⟩
    · go_wp2
      go_ret
      exact ⟨rfl, by rw [hQ.out]; exact hbw⟩
end Go.Proofs.Qxb6609212aMods.Env
