/-
  THE ARGUMENT '[]Env' OPENED: its envelopes, cell by cell. Shared by the seat's three laws.
-/
import Derived.Test.Qxb6609212aModsEnvs
import Derived.ProofKit
import Derived.OpenShut
namespace Go.Proofs.Qxb6609212aMods.Env
open Go.ChangeShapes Go.WideShapes Go.ChangeAt Go.RowKit Go.Deep
set_option linter.unusedVariables false

/-- One element of the argument in memory (five cells). -/
def At5 (w : World) (b off i : Nat) (e : E) : Prop :=
  w.cell? ⟨b, off + i * 5, none⟩ = some (.int .u64 e.1) ∧ w.cell? ⟨b, off + i * 5 + 1, none⟩ = some (.int .u64 e.2.1) ∧ w.cell? ⟨b, off + i * 5 + 2, none⟩ = some (.int .u64 e.2.2.1) ∧
  w.cell? ⟨b, off + i * 5 + 3, none⟩ = some (.int .i64 e.2.2.2.1) ∧ w.cell? ⟨b, off + i * 5 + 4, none⟩ = some (.int .i64 e.2.2.2.2)
theorem At5.below {w w' : World} {b off i B : Nat} {e : E} (h : At5 w b off i e) (hb : Below B w w') (hB : b < B) : At5 w' b off i e :=
  ⟨(hb.cell (by exact hB)).trans h.1, (hb.cell (by exact hB)).trans h.2.1, (hb.cell (by exact hB)).trans h.2.2.1, (hb.cell (by exact hB)).trans h.2.2.2.1, (hb.cell (by exact hB)).trans h.2.2.2.2⟩

/-- What the walk is told of the argument. -/
def IsEnvs (w : World) (a : Option Addr) (len : Nat) (es : List E) : Prop :=
  es.length = len ∧ len ≤ maxLen ∧ (∀ e ∈ es, Fits e) ∧ (0 < len → ∃ b off, b < w.heap.size ∧ a = some ⟨b, off, none⟩ ∧ ∀ i, i < len → At5 w b off i (es.getD i zero))

theorem one_env {H : Type} {enc : TypeId × Value → H} {w : World} {base n : Nat} {spare : Nat → Bool} {held : Bool} {cs : List Value} {x : DataW H × List MemPlace} (h : DataW.trod enc Trym.prog w base spare held n 29 cs = some x) :
    ∃ e : E, Fits e ∧ cs = [.int .u64 e.1, .int .u64 e.2.1, .int .u64 e.2.2.1, .int .i64 e.2.2.2.1, .int .i64 e.2.2.2.2] := by
  obtain ⟨xs, k, _, _, hl, hxl, hf⟩ := DataW.trod_struct Trym.underlying29 h
  have c29 : Trym.prog.cellsOf 29 = 5 := by kernel_rfl
  have c27 : Trym.prog.cellsOf 27 = 1 := by kernel_rfl
  have c3 : Trym.prog.cellsOf 3 = 1 := by kernel_rfl
  rw [c29] at hl
  match cs, hl, xs, hxl with
  | [v0, v1, v2, v3, v4], _, [y0, y1, y2, y3, y4], _ =>
    have g0 := hf 0 _ rfl
    have g1 := hf 1 _ rfl
    have g2 := hf 2 _ rfl
    have g3 := hf 3 _ rfl
    have g4 := hf 4 _ rfl
    simp [c27, c3] at g0 g1 g2 g3 g4
    obtain ⟨a0, e0, _, f0⟩ := DataW.trod_int Trym.underlying27 g0
    obtain ⟨a1, e1, _, f1⟩ := DataW.trod_int Trym.underlying27 g1
    obtain ⟨a2, e2, _, f2⟩ := DataW.trod_int Trym.underlying27 g2
    obtain ⟨a3, e3, _, f3⟩ := DataW.trod_int Trym.underlying3 g3
    obtain ⟨a4, e4, _, f4⟩ := DataW.trod_int Trym.underlying3 g4
    simp at e0 e1 e2 e3 e4
    subst e0; subst e1; subst e2; subst e3; subst e4
    exact ⟨(a0, a1, a2, a3, a4), ⟨bounds_u64 f0, bounds_u64 f1, bounds_u64 f2, bounds_i64 f3, bounds_i64 f4⟩, rfl⟩

theorem open_envs {H : Type} {enc : TypeId × Value → H} {w : World} {base fuel : Nat} {spare : Nat → Bool} {held : Bool} {a : Option Addr} {len cap : Nat} {x : DataW H × List MemPlace}
    (h : DataW.trod enc Trym.prog w base spare held fuel 22 [.slice a len cap] = some x) : ∃ es, IsEnvs w a len es := by
  have c29 : Trym.prog.cellsOf 29 = 5 := by kernel_rfl
  rcases open_slice Trym.underlying22 h with ⟨hcs, _⟩ | ⟨a', len', cap', m, n, D, Pl, hcs, _, hlc, hcm, hmm, _, hx⟩
  · simp at hcs
    obtain ⟨rfl, rfl, rfl⟩ := hcs
    exact ⟨[], rfl, Nat.zero_le _, by simp, fun h => by omega⟩
  · simp at hcs
    obtain ⟨rfl, rfl, rfl⟩ := hcs
    have hlm : len ≤ m := by rw [hmm]; split <;> omega
    have each : ∀ i, i < len → ∃ e : E, Fits e ∧ ∀ j, j < 5 → w.cell? ((a'.add (i * 5)).add j) = ([.int .u64 e.1, .int .u64 e.2.1, .int .u64 e.2.2.1, .int .i64 e.2.2.2.1, .int .i64 e.2.2.2.2] : List Value)[j]? := by
      intro i hi
      obtain ⟨cs', g1, g2⟩ := hx i (by omega)
      rw [c29] at g1
      obtain ⟨_, _, hcell⟩ := World.cells?_some g1
      obtain ⟨e, hfit, rfl⟩ := one_env g2
      exact ⟨e, hfit, hcell⟩
    obtain ⟨f, hf⟩ := choose_lt each
    refine ⟨(List.range len).map f, by simp, by omega, ?_, ?_⟩
    · intro e he
      obtain ⟨i, hi, rfl⟩ := List.mem_map.1 he
      exact (hf i (List.mem_range.1 hi)).1
    · intro h0
      obtain ⟨b, off, spot⟩ := a'
      have hsp := (hf 0 h0).2 0 (by omega)
      have hspot : spot = none := by
        have := World.cell?_spot (w := w) (a := _) hsp
        simpa [Addr.add] using this
      subst hspot
      have hlt : b < w.heap.size := by
        have := World.block_lt_of_cell? w _ hsp
        simpa [Addr.add] using this
      refine ⟨b, off, hlt, rfl, ?_⟩
      intro i hi
      have hg : ((List.range len).map f).getD i zero = f i := by simp [List.getD, hi]
      rw [hg]
      have hc := (hf i hi).2
      have h0' := hc 0 (by omega)
      have h1' := hc 1 (by omega)
      have h2' := hc 2 (by omega)
      have h3' := hc 3 (by omega)
      have h4' := hc 4 (by omega)
      simp only [add_plain, Nat.add_zero] at h0' h1' h2' h3' h4'
      exact ⟨h0', h1', h2', h3', h4'⟩
end Go.Proofs.Qxb6609212aMods.Env
