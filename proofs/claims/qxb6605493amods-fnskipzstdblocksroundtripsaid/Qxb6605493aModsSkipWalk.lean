/-
  THE WALK of skipZstdBlocks and of the function that passes on to it.
-/
import Derived.Test.Qxb6605493aModsRows
import Derived.Test.Qxb6605493aModsSkipPlain
import Derived.WalkKit
import Derived.Below
import Derived.BigQuiet
import Derived.Deep.QuietTactic
import Derived.WalkSpells
namespace Go.Proofs.Qxb6605493aMods.Skip
open Go.RowKit
set_option linter.unusedVariables false

def lenOf : Value → Nat | .slice _ n _ => n | _ => 0
/-- What skipZstdBlocks answers: how far it has come. -/
def res (bs : List Int) (ck : Bool) : Option Nat :=
  match runL bs (bs.length + 1) 0 with
  | none => none
  | some p => if ck = true then (if bs.length < p + 4 then none else some (p + 4)) else some p
/-- What is claimed of the ending. -/
def Ends (b cap : Nat) (bs : List Int) (ck : Bool) (e : Ending) : Prop :=
  (res bs ck = none ∧ e = .returned (.tuple #[.slice none 0 0, .bool false])) ∨
  ∃ p ao l c, res bs ck = some p ∧ p + l = bs.length ∧ p + c = cap ∧ e = .returned (.tuple #[.slice ao l c, .bool true]) ∧ (p < cap → ao = some ⟨b, p, none⟩)

theorem ends_no {b cap : Nat} {bs : List Int} {ck : Bool} {e : Ending} (h : runL bs (bs.length + 1) 0 = none) (he : e = .returned (.tuple #[.slice none 0 0, .bool false])) : Ends b cap bs ck e :=
  .inl ⟨by unfold res; rw [h], he⟩
theorem run_no {bs : List Int} {f p l : Nat} (hR : runL bs (bs.length + 1) 0 = runL bs f p) (hf : l < f) (hs : stepL bs p = none) : runL bs (bs.length + 1) 0 = none := by
  obtain ⟨f, rfl⟩ : ∃ f', f = f' + 1 := ⟨f - 1, by omega⟩
  rw [hR, runL, hs]
theorem run_last {bs : List Int} {f p l q : Nat} (hR : runL bs (bs.length + 1) 0 = runL bs f p) (hf : l < f) (hs : stepL bs p = some (true, q)) : runL bs (bs.length + 1) 0 = some q := by
  obtain ⟨f, rfl⟩ : ∃ f', f = f' + 1 := ⟨f - 1, by omega⟩
  rw [hR, runL, hs]
theorem run_more {bs : List Int} {f p l q : Nat} (hR : runL bs (bs.length + 1) 0 = runL bs f p) (hf : l < f) (hs : stepL bs p = some (false, q)) : ∃ f', runL bs (bs.length + 1) 0 = runL bs f' q ∧ f' + 1 = f := by
  obtain ⟨f, rfl⟩ : ∃ f', f = f' + 1 := ⟨f - 1, by omega⟩
  exact ⟨f, by rw [hR, runL, hs], rfl⟩
theorem step_short {bs : List Int} {p l : Nat} (hl : p + l = bs.length) (h : l < 3) : stepL bs p = none := by
  unfold stepL; rw [if_pos (by omega)]
theorem step_three {bs : List Int} {p : Nat} {H kk : Int} (e : hd bs p = H) (ek : kk = H / 2 % 4) (h : (kk == 3) = true) : stepL bs p = none := by
  unfold stepL; rw [e, ← ek]
  have : kk = 3 := by simpa using h
  rw [if_pos this]
  split <;> rfl
theorem szOf_one {H kk : Int} (ek : kk = H / 2 % 4) (h : (kk == 1) = true) : szOf H = 1 := by
  have : kk = 1 := by simpa using h
  unfold szOf; rw [← ek, if_pos this]
theorem szOf_some {H kk : Int} {s : Nat} (ek : kk = H / 2 % 4) (h : (kk == 1) = false) (es : H / 8 = s) : szOf H = s := by
  have : ¬ kk = 1 := by simpa using h
  unfold szOf; rw [← ek, if_neg this, es]; simp
theorem step_cut {bs : List Int} {p l s : Nat} {H : Int} (hl : p + l = bs.length) (e : hd bs p = H) (es : szOf H = s) (h : (l : Int) - 3 < s) : stepL bs p = none := by
  unfold stepL; rw [e, es]
  split
  · rfl
  · split
    · rfl
    · rw [if_pos (by omega)]
theorem step_ok {bs : List Int} {p l s : Nat} {H kk ll : Int} (hl : p + l = bs.length) (e : hd bs p = H) (es : szOf H = s) (ek : kk = H / 2 % 4) (h3 : ¬ kk = 3) (h : (s : Int) ≤ (l : Int) - 3) (el : ll = H % 2) :
    stepL bs p = some (ll != 0, p + 3 + s) := by
  unfold stepL; rw [e, es, ← ek, if_neg (by omega), if_neg h3, if_neg (by omega), ← el]
  congr 2
  rw [Bool.eq_iff_iff]
  simp
  omega

theorem tail_ok {b cap : Nat} {bs : List Int} {p l c : Nat} {ao : Option Addr} (hR : runL bs (bs.length + 1) 0 = some p) (hpl : p + l = bs.length) (hpc : p + c = cap) (had : p < cap → ao = some ⟨b, p, none⟩) :
    Ends b cap bs false (.returned (.tuple #[.slice ao l c, .bool true])) :=
  .inr ⟨p, ao, l, c, by unfold res; rw [hR]; rfl, hpl, hpc, rfl, had⟩
theorem tail_sum {b cap : Nat} {bs : List Int} {p l c : Nat} {ao ao' : Option Addr} {l' c' : Nat} (hR : runL bs (bs.length + 1) 0 = some p) (hpl : p + l = bs.length) (hpc : p + c = cap) (had : p < cap → ao = some ⟨b, p, none⟩) (h4 : ¬ l < 4) (hlc : l ≤ c)
    (hl' : l' = l - 4) (hc' : c' = c - 4) (ha : c ≠ 4 → ao = some ⟨b, p, none⟩ → ao' = some ⟨b, p + 4, none⟩) :
    Ends b cap bs true (.returned (.tuple #[.slice ao' l' c', .bool true])) :=
  .inr ⟨p + 4, ao', l', c', by unfold res; rw [hR]; simp; omega, by omega, by omega, rfl, fun h => ha (by omega) (had (by omega))⟩
theorem rel_next {bs : List Int} {f p l q l' : Nat} {t : Bool} (hR : runL bs (bs.length + 1) 0 = runL bs f p) (hf : l < f) (hs : stepL bs p = some (t, q)) (hl : l' < l) :
    (Value.bool t = .bool false ∧ ∃ f', runL bs (bs.length + 1) 0 = runL bs f' q ∧ l' < f') ∨ (Value.bool t = .bool true ∧ runL bs (bs.length + 1) 0 = some q) := by
  cases t with
  | false => obtain ⟨f', h1, h2⟩ := run_more hR hf hs; exact .inl ⟨rfl, f', h1, by omega⟩
  | true => exact .inr ⟨rfl, run_last hR hf hs⟩
theorem tail_cut {b cap : Nat} {bs : List Int} {p l : Nat} (hR : runL bs (bs.length + 1) 0 = some p) (hpl : p + l = bs.length) (h4 : l < 4) :
    Ends b cap bs true (.returned (.tuple #[.slice none 0 0, .bool false])) :=
  .inl ⟨by unfold res; rw [hR]; simp; omega, rfl⟩

theorem not_three {kk : Int} (h : (kk == 1) = true) : ¬ kk = 3 := by
  have : kk = 1 := by simpa using h
  omega
theorem dd (w : World) (a b : Nat) : ∃ nq, (w.drewN a).drewN b = w.drewN nq := ⟨_, World.drewN_drewN _ _ _⟩
theorem ddd (w : World) (a b c : Nat) : ∃ nq, ((w.drewN a).drewN b).drewN c = w.drewN nq := ⟨_, by rw [World.drewN_drewN, World.drewN_drewN]⟩

set_option maxHeartbeats 800000 in
theorem skip_any (b cap : Nat) (bs : List Int) (ck : Bool) (w : World) (hlc : bs.length ≤ cap) (hcap : cap ≤ maxLen)
    (hc : ∀ j, j < bs.length → w.cell? ⟨b, j, none⟩ = some (.int .u8 (bs.getD j 0))) (hb : ∀ j, 0 ≤ bs.getD j 0 ∧ bs.getD j 0 ≤ 255) :
    Calls Trym.prog 10 #[.slice (some ⟨b, 0, none⟩) bs.length cap, .bool ck] w fun e w' => (∃ nq, w' = w.drewN nq) ∧ Ends b cap bs ck e := by
  unfold maxLen at hcap
  go_enter Trym.func10, Trym.ntmps10
  go_wp2
  go_loopw [0, 6] (fun s last wr => ∃ (p l c : Nat) (ao : Option Addr), s = .slice ao l c ∧ p + l = bs.length ∧ p + c = cap ∧ (p < cap → ao = some ⟨b, p, none⟩) ∧ (∃ nq, wr = w.drewN nq) ∧
      ((last = .bool false ∧ ∃ f, runL bs (bs.length + 1) 0 = runL bs f p ∧ l < f) ∨ (last = .bool true ∧ runL bs (bs.length + 1) 0 = some p)))
    (fun s _ _ => lenOf s)
  case atStart => exact ⟨0, bs.length, cap, _, rfl, by omega, by omega, fun _ => rfl, ⟨0, rfl⟩, .inl ⟨rfl, bs.length + 1, rfl, by omega⟩⟩
  case round =>
    obtain ⟨p, l, c, ao, rfl, hpl, hpc, had, ⟨nq, rfl⟩, ⟨rfl, f, hR, hlf⟩ | ⟨rfl, hR⟩⟩ := hrel
    · have HR : Hid (runL bs (bs.length + 1) 0 = runL bs f p) := hR
      have HL : Hid (p + l = bs.length ∧ p + c = cap) := ⟨hpl, hpc⟩
      have hlm : l ≤ 9223372036854775807 := by omega
      clear hR
      by_cases h3 : l < 3
      · clear hpl hpc
        go_wp2
        go_ret2
        exact ⟨⟨_, rfl⟩, ends_no (run_no HR.out hlf (step_short HL.out.1 h3)) rfl⟩
      · obtain rfl := had (by omega)
        have hx0 := hc p (by omega)
        have hx1 := hc (p + 1) (by omega)
        have hx2 := hc (p + 2) (by omega)
        have hb0 := hb p
        have hb1 := hb (p + 1)
        have hb2 := hb (p + 2)
        obtain ⟨x0, X0⟩ : ∃ x, Hid (bs.getD p 0 = x) := ⟨_, rfl⟩
        obtain ⟨x1, X1⟩ : ∃ x, Hid (bs.getD (p + 1) 0 = x) := ⟨_, rfl⟩
        obtain ⟨x2, X2⟩ : ∃ x, Hid (bs.getD (p + 2) 0 = x) := ⟨_, rfl⟩
        rw [X0.out] at hx0 hb0
        rw [X1.out] at hx1 hb1
        rw [X2.out] at hx2 hb2
        have hl0 : (0 : Int) < (l : Int) := by omega
        have hl1 : (1 : Int) < (l : Int) := by omega
        have hl2 : (2 : Int) < (l : Int) := by omega
        obtain ⟨H1, e1, E1⟩ : ∃ y, bits .or .u32 x0 (x1 * 256) = y ∧ Hid (y = x0 + x1 * 256) := ⟨_, or_hi 8 (by omega) (by omega) (by omega) (by omega) (by omega) (by omega), rfl⟩
        obtain ⟨H, e2, E2⟩ : ∃ y, bits .or .u32 H1 (x2 * 65536) = y ∧ Hid (y = H1 + x2 * 65536) := ⟨_, or_hi 16 (by omega) (by have := E1.out; omega) (by have := E1.out; omega) (by omega) (by omega) (by omega), rfl⟩
        have EH : Hid (hd bs p = H) := by unfold hd; rw [X0.out, X1.out, X2.out, E2.out, E1.out]; exact rfl
        have hH : 0 ≤ H ∧ H < 16777216 := by have := E1.out; have := E2.out; omega
        obtain ⟨kk, e3, E3⟩ : ∃ y, bits .and .u32 (H / 2) 3 = y ∧ Hid (y = H / 2 % 4) := ⟨_, and3 (by omega) (by omega), rfl⟩
        obtain ⟨ll, e4, E4⟩ : ∃ y, bits .and .u32 H 1 = y ∧ Hid (y = H % 2) := ⟨_, and1 (by omega) (by omega), rfl⟩
        obtain ⟨sz, e5, hsz⟩ : ∃ s : Nat, H / 8 = (s : Int) ∧ s < 2097152 := ⟨(H / 8).toNat, by omega, by omega⟩
        clear hpl hpc hc hb had E1 E2
        go_wp2
        go_quiet (fail)
        go_wp2
        · have k1 : (kk == 1) = true := by assumption
          have h4 : (l : Int) - 3 < 1 := by assumption
          go_ret2
          exact ⟨⟨_, rfl⟩, ends_no (run_no HR.out hlf (step_cut HL.out.1 EH.out (szOf_one E3.out k1) (by simpa using h4))) rfl⟩
        · have k1 : (kk == 1) = true := by assumption
          have h4 : (1 : Int) ≤ (l : Int) - 3 := by assumption
          have hl4 : (4 : Int) ≤ (l : Int) := by omega
          go_quiet (fail)
          go_wp2
          go_roundw
          case rel => exact ⟨p + 3 + 1, l - 4, c - 4, _, rfl, by have := HL.out; omega, by have := HL.out; omega, fun h => by rw [if_neg (by have := HL.out; omega)], dd _ _ _, rel_next HR.out hlf (step_ok HL.out.1 EH.out (szOf_one E3.out k1) E3.out (not_three k1) (by omega) E4.out) (by omega)⟩
          case measure => simp [lenOf]; omega
        · have k3 : (kk == 3) = true := by assumption
          go_ret2
          exact ⟨⟨_, rfl⟩, ends_no (run_no HR.out hlf (step_three EH.out E3.out k3)) rfl⟩
        · have k1 : (kk == 1) = false := by assumption
          have h4 : (l : Int) - 3 < (sz : Int) := by assumption
          go_ret2
          exact ⟨⟨_, rfl⟩, ends_no (run_no HR.out hlf (step_cut HL.out.1 EH.out (szOf_some E3.out k1 e5) h4)) rfl⟩
        · have k1 : (kk == 1) = false := by assumption
          have k3 : (kk == 3) = false := by assumption
          have h4 : (sz : Int) ≤ (l : Int) - 3 := by assumption
          have hl4 : (3 : Int) + sz ≤ (l : Int) := by omega
          go_quiet (fail)
          go_wp2
          go_roundw
          case rel => exact ⟨p + 3 + sz, l - (3 + sz), c - (3 + sz), _, rfl, by have := HL.out; omega, by have := HL.out; omega, fun h => by rw [if_neg (by have := HL.out; omega)]; simp [Nat.add_assoc], dd _ _ _, rel_next HR.out hlf (step_ok HL.out.1 EH.out (szOf_some E3.out k1 e5) E3.out (by simpa using k3) (by omega) E4.out) (by omega)⟩
          case measure => simp [lenOf]; omega
    · have HR : Hid (runL bs (bs.length + 1) 0 = some p) := hR
      have HL : Hid (p + l = bs.length ∧ p + c = cap ∧ (p < cap → ao = some ⟨b, p, none⟩)) := ⟨hpl, hpc, had⟩
      have hlm : l ≤ 9223372036854775807 := by omega
      have hlc : l ≤ c := by omega
      clear hR hpl hpc hc hb had
      cases ck with
      | false =>
        go_wp2
        go_ret2
        exact ⟨⟨_, rfl⟩, tail_ok HR.out HL.out.1 HL.out.2.1 HL.out.2.2⟩
      | true =>
        go_wp2
        · have h4 : (l : Int) < 4 := by assumption
          go_ret2
          exact ⟨⟨_, rfl⟩, tail_cut HR.out HL.out.1 (by omega)⟩
        · have h4 : (4 : Int) ≤ (l : Int) := by assumption
          have h5 : c = 4 := by assumption
          go_ret2
          exact ⟨⟨_, rfl⟩, tail_sum HR.out HL.out.1 HL.out.2.1 HL.out.2.2 (by omega) (by omega) (by omega) (by omega) (fun h => absurd h5 h)⟩
        · have h4 : (4 : Int) ≤ (l : Int) := by assumption
          go_ret2
          exact ⟨⟨_, rfl⟩, tail_sum HR.out HL.out.1 HL.out.2.1 HL.out.2.2 (by omega) (by omega) rfl rfl (fun h h' => by rw [h']; rfl)⟩

theorem zzskip_any (b cap : Nat) (bs : List Int) (ck : Bool) (w : World) (hlc : bs.length ≤ cap) (hcap : cap ≤ maxLen)
    (hc : ∀ j, j < bs.length → w.cell? ⟨b, j, none⟩ = some (.int .u8 (bs.getD j 0))) (hb : ∀ j, 0 ≤ bs.getD j 0 ∧ bs.getD j 0 ≤ 255) :
    Calls Trym.prog 8 #[.slice (some ⟨b, 0, none⟩) bs.length cap, .bool ck] w fun e w' => (∃ nq, w' = w.drewN nq) ∧ Ends b cap bs ck e := by
  have H := fun w hc => skip_any b cap bs ck w hlc hcap hc hb
  go_enter Trym.func8, Trym.ntmps8
  go_wp2_with fail
  refine (H _ hc).mono ?_
  rintro e w' ⟨⟨nq, rfl⟩, ⟨hr, rfl⟩ | ⟨p, ao, l, c, hr, hpl, hpc, rfl, had⟩⟩
  · have HR : Hid (res bs ck = none) := hr
    clear hr H hc hb
    go_wp2
    go_ret2
    exact ⟨⟨_, rfl⟩, .inl ⟨HR.out, rfl⟩⟩
  · have HR : Hid (res bs ck = some p ∧ p + l = bs.length ∧ p + c = cap ∧ (p < cap → ao = some ⟨b, p, none⟩)) := ⟨hr, hpl, hpc, had⟩
    clear hr H hc hb hpl hpc had
    go_wp2
    go_ret2
    exact ⟨⟨_, rfl⟩, .inr ⟨p, ao, l, c, HR.out.1, HR.out.2.1, HR.out.2.2.1, rfl, HR.out.2.2.2⟩⟩

/-- The answer on a slice that is read to its end. -/
theorem skip_yes (b cap len p l : Nat) (bs : List Int) (ck : Bool) (w : World) (hl : bs.length = len) (hlc : len ≤ cap) (hcap : cap ≤ maxLen)
    (hc : ∀ j, j < len → w.cell? ⟨b, j, none⟩ = some (.int .u8 (bs.getD j 0))) (hb : Bytes bs) (hr : res bs ck = some p) (hp : p + l = len) :
    Calls Trym.prog 8 #[.slice (some ⟨b, 0, none⟩) len cap, .bool ck] w fun e w' => (∃ nq, w' = w.drewN nq) ∧ ∃ ao c, e = .returned (.tuple #[.slice ao l c, .bool true]) ∧ (p < cap → ao = some ⟨b, p, none⟩) := by
  subst hl
  refine (zzskip_any b cap bs ck w hlc hcap hc hb.at).mono ?_
  rintro e w' ⟨hw, ⟨h, _⟩ | ⟨p', ao, l', c, h, hpl, hpc, rfl, had⟩⟩
  · rw [hr] at h; cases h
  · rw [hr] at h; cases h
    obtain rfl : l = l' := by omega
    exact ⟨hw, ao, c, rfl, had⟩
/-- The answer on one that is refused. -/
theorem skip_no (b cap len : Nat) (bs : List Int) (ck : Bool) (w : World) (hl : bs.length = len) (hlc : len ≤ cap) (hcap : cap ≤ maxLen)
    (hc : ∀ j, j < len → w.cell? ⟨b, j, none⟩ = some (.int .u8 (bs.getD j 0))) (hb : Bytes bs) (hr : res bs ck = none) :
    Calls Trym.prog 8 #[.slice (some ⟨b, 0, none⟩) len cap, .bool ck] w fun e w' => (∃ nq, w' = w.drewN nq) ∧ e = .returned (.tuple #[.slice none 0 0, .bool false]) := by
  subst hl
  refine (zzskip_any b cap bs ck w hlc hcap hc hb.at).mono ?_
  rintro e w' ⟨hw, ⟨h, rfl⟩ | ⟨p', ao, l', c, h, hpl, hpc, rfl, had⟩⟩
  · exact ⟨hw, rfl⟩
  · rw [hr] at h; cases h

/-! ### What the law comes to -/
theorem res_whole {fill : Int} {ks ss ts D F Z : List Int} {n L : Nat} {ck : Bool} (hn : 0 < n) (hg : Good ks ss n) (hF : frm fill ks ss n n = F)
    (hD : D = F ++ (if ck = true then [197, 90, 0, fill] else [])) (hZ : D ++ ts = Z) (hL : D.length = L) : res Z ck = some L := by
  subst hZ; subst hF
  have hge := frm_ge fill ks ss n n
  have hr := run_all fill ks ss n hn hg (D ++ ts) (fun j _ hj => by
    subst hD
    simp only [List.getD]
    rw [List.append_assoc, List.getElem?_append_left hj]) ((D ++ ts).length + 1) (fun h => by omega)
  have hle : (frm fill ks ss n n).length ≤ (D ++ ts).length := by subst hD; simp
  rw [if_pos hle] at hr
  unfold res
  rw [hr]
  subst hD
  cases ck with
  | false => simp at hL ⊢; omega
  | true => simp at hL ⊢; omega
theorem res_cut {fill : Int} {ks ss D F : List Int} {n L c : Nat} {ck : Bool} (hn : 0 < n) (hg : Good ks ss n) (hF : frm fill ks ss n n = F)
    (hD : D = F ++ (if ck = true then [197, 90, 0, fill] else [])) (hL : D.length = L) (hc : c < L) : res (D.take c) ck = none := by
  subst hF
  have hge := frm_ge fill ks ss n n
  have hlen : (D.take c).length = c := by simp; omega
  have hr := run_all fill ks ss n hn hg (D.take c) (fun j hj1 hj => by
    subst hD
    rw [hlen] at hj1
    simp only [List.getD]
    rw [List.getElem?_take, if_pos hj1, List.getElem?_append_left hj]) ((D.take c).length + 1) (fun h => by omega)
  unfold res
  rw [hr, hlen]
  subst hD
  cases ck with
  | false => simp at hL; rw [if_neg (by omega)]
  | true =>
    simp at hL
    by_cases h : (frm fill ks ss n n).length ≤ c
    · rw [if_pos h]; simp; omega
    · rw [if_neg h]
end Go.Proofs.Qxb6605493aMods.Skip
