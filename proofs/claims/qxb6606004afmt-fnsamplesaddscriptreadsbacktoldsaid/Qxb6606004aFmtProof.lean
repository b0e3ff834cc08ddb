/-
  Seat b6606004aF: 'Rows.FnSamplesAddScriptReadsBackToldSaid' proved. By an AI agent.
-/
import Derived.Test.Qxb6606004aFmtRows
import Derived.Test.Qxb6606004aFmtCards
import Derived.Test.Qxb6606004aFmtLaw
import Derived.WalkKit
import Derived.ProofKit
import Derived.OpenShut
import Derived.ChangeOld
import Derived.Below
import Derived.Deep.Slices
import Derived.Stop.JoinedAt
import Derived.Stop.JoinedTold
import Derived.SevenToldRow
namespace Go.Proofs.Qxb6606004aFmt.readsBack
open Go.ChangeShapes Go.WideShapes Go.ChangeAt Go.RowKit
open Go.Extern.Stop Go.Stop Go.Extern
set_option linter.unusedVariables false

theorem own : ownKnob Tryf.prog.godebug = none := by kernel_rfl
theorem laidOut : laidOutB Tryf.prog = true := by kernel_rfl
theorem cells2 : Tryf.prog.cellsOf 2 = 1 := by kernel_rfl
theorem cells43 : Tryf.prog.cellsOf 43 = 1 := by kernel_rfl

theorem cell_int {H : Type} {enc : TypeId × Value → H} {w : World} {base : Nat} {spare : Nat → Bool} {held : Bool} {fuel : Nat} {v : Value} {x : DataW H × List MemPlace}
    (h : DataW.trod enc Tryf.prog w base spare held fuel 2 [v] = some x) : ∃ z, v = .int .i64 z := by
  cases fuel with
  | zero => simp [DataW.trod] at h
  | succ n =>
    simp only [DataW.trod, Tryf.underlying2] at h
    split at h <;> simp_all

theorem cell_float {H : Type} {enc : TypeId × Value → H} {w : World} {base : Nat} {spare : Nat → Bool} {held : Bool} {fuel : Nat} {v : Value} {x : DataW H × List MemPlace}
    (h : DataW.trod enc Tryf.prog w base spare held fuel 43 [v] = some x) : ∃ z, v = .float .f64 z := by
  cases fuel with
  | zero => simp [DataW.trod] at h
  | succ n =>
    simp only [DataW.trod, Tryf.underlying43] at h
    split at h <;> simp_all

/-- WHAT THE WALK IS TOLD OF A SLICE THAT CAME IN: nil, or its elements lie there. -/
def IsRow (w : World) (a : Option Addr) (len cap : Nat) (f : Nat → Value) : Prop := (a = none → len = 0 ∧ cap = 0) ∧ VL w a len f

/-- The specification. -/
abbrev spec : OpenSpec := OpenSpec.ofChange Rows.fnSamplesAddScriptReadsBackSpec

set_option maxRecDepth 100000 in
theorem lifted (os : Os) (started : os.Started) (H : Type) (enc : TypeId × Value → H) :
    ReturnsInTold none {} Tryf.checked os 5 .any Input.okWide (spec.preRow enc Tryf.prog Tryf.f5 [] false []) (fun F => (spec.at F).post enc Tryf.prog Tryf.f5 false true false false) (aloneAtReturn Tryf.prog) nothingAlways := by
  refine returnsInTold_of_row (C := Tryf.checked) (s := spec) (by kernel_rfl) own started (by kernel_rfl) Tryf.func5
    (OpenSpec.witness_stopped (enc := enc) (C := Tryf.checked) false ⟨#[], #[.slice none 0 0, .slice none 0 0], []⟩ 8 (by kernel_rfl) (by kernel_rfl) (by kernel_rfl) (by kernel_rfl)) ?_
  intro F W base args ds gs before _ hF hval0 hW _ _ _ _ _
  have hval : ∀ (j : Nat) t v, Tryf.f5.params[j]? = some t → args[j]? = some v → Value.okWide Tryf.prog W .any base t v := hval0
  have hW' := hW
  obtain ⟨p, q, hA0, hV, rfl, hfz, hnd⟩ := hW
  have hA : DataW.TrodAll enc Tryf.prog W 0 (fun _ => true) true Tryf.f5.params.toList args.toList ds p := hA0
  rw [Tryf.params5] at hA hval
  obtain ⟨v0, vs0, d0, ds0, p0, q0, hargs, rfl, rfl, h0, r0⟩ := trodAll_cons hA
  obtain ⟨v1, vs1, d1, ds1, p1, q1, rfl, rfl, rfl, h1, r1⟩ := trodAll_cons r0
  obtain ⟨rfl, rfl, rfl⟩ := trodAll_nil r1
  obtain rfl : args = #[v0, v1] := by cases args; simp_all
  obtain ⟨rfl, rfl⟩ := trodVars_none hV
  obtain ⟨a0, len0, cap0, rfl⟩ := okWide_slice Tryf.underlying22 (hval 0 22 v0 rfl rfl)
  have k0 := h0
  have lt0 : ∀ x ∈ p0, x.block < W.heap.size := by obtain ⟨m, hm⟩ := k0; exact DataW.trod_lt m _ _ _ hm
  obtain ⟨t, w0⟩ : ∃ t : Nat → Int, IsRow W a0 len0 cap0 (fun j => .int .i64 (t j)) := by
    obtain ⟨fuel, hf⟩ := h0
    rcases Go.Deep.open_slice1 Tryf.underlying22 cells2 hf with ⟨hcs, _⟩ | ⟨a, l, c, m, n, V, D, Pl, hcs, _, hl, hm, hmm, _, hcell⟩
    · simp [Value.cells] at hcs
      obtain ⟨rfl, rfl, rfl⟩ := hcs
      exact ⟨fun _ => 0, fun _ => ⟨rfl, rfl⟩, fun j hj => by omega⟩
    · simp [Value.cells] at hcs
      obtain ⟨rfl, rfl, rfl⟩ := hcs
      have hlm : len0 ≤ m := by rw [hmm]; split <;> omega
      have each : ∀ j, ∃ z, j < len0 → V j = .int .i64 z := fun j => by
        by_cases hj : j < len0
        · obtain ⟨z, hz⟩ := cell_int (hcell j (by omega)).2
          exact ⟨z, fun _ => hz⟩
        · exact ⟨0, fun h => absurd h hj⟩
      obtain ⟨t, ht⟩ : ∃ t : Nat → Int, ∀ j, j < len0 → V j = .int .i64 (t j) := ⟨fun j => Classical.choose (each j), fun j => Classical.choose_spec (each j)⟩
      refine ⟨t, (fun h => by cases h), fun j hj => ⟨_, rfl, ?_⟩⟩
      rw [(hcell j (by omega)).1, ht j hj]
  obtain ⟨a1, len1, cap1, rfl⟩ := okWide_slice Tryf.underlying37 (hval 1 37 v1 rfl rfl)
  have k1 := h1
  have lt1 : ∀ x ∈ p1, x.block < W.heap.size := by obtain ⟨m, hm⟩ := k1; exact DataW.trod_lt m _ _ _ hm
  obtain ⟨f, w1⟩ : ∃ f : Nat → Nat, IsRow W a1 len1 cap1 (fun j => .float .f64 (f j)) := by
    obtain ⟨fuel, hf⟩ := h1
    rcases Go.Deep.open_slice1 Tryf.underlying37 cells43 hf with ⟨hcs, _⟩ | ⟨a, l, c, m, n, V, D, Pl, hcs, _, hl, hm, hmm, _, hcell⟩
    · simp [Value.cells] at hcs
      obtain ⟨rfl, rfl, rfl⟩ := hcs
      exact ⟨fun _ => 0, fun _ => ⟨rfl, rfl⟩, fun j hj => by omega⟩
    · simp [Value.cells] at hcs
      obtain ⟨rfl, rfl, rfl⟩ := hcs
      have hlm : len1 ≤ m := by rw [hmm]; split <;> omega
      have each : ∀ j, ∃ z, j < len1 → V j = .float .f64 z := fun j => by
        by_cases hj : j < len1
        · obtain ⟨z, hz⟩ := cell_float (hcell j (by omega)).2
          exact ⟨z, fun _ => hz⟩
        · exact ⟨0, fun h => absurd h hj⟩
      obtain ⟨f, hf'⟩ : ∃ f : Nat → Nat, ∀ j, j < len1 → V j = .float .f64 (f j) := ⟨fun j => Classical.choose (each j), fun j => Classical.choose_spec (each j)⟩
      refine ⟨f, (fun h => by cases h), fun j hj => ⟨_, rfl, ?_⟩⟩
      rw [(hcell j (by omega)).1, hf' j hj]
  clear hA0 hval0
  refine (law_any a0 a1 len0 len1 cap0 cap1 t f W w0.1 w1.1 w0.2 w1.2).mono fun e W' ⟨he, bel⟩ => ?_
  subst he
  exact ⟨_, rfl, _, _, _, [], _, [], hW', trodAll_mk1 (shut_bool Tryf.underlying4 _), (trodAll_cons_mk (Below.trod laidOut (by kernel_rfl) (of_decide_eq_true (by kernel_rfl)) k0 bel lt0) (trodAll_cons_mk (Below.trod laidOut (by kernel_rfl) (of_decide_eq_true (by kernel_rfl)) k1 bel lt1) trodAll_mk0)), rfl, bel.frame _, fun h => by cases h⟩

theorem stops : Tryf.pinned.checked.prog.stops = Rows.fnSamplesAddScriptReadsBackRow.stops := by kernel_rfl
theorem stopKnobs : Tryf.pinned.checked.prog.stopKnobs = [] := by kernel_rfl
theorem quiet (os : Os) : Stop.quiet Tryf.pinned.checked.prog os := by
  intro k hk
  rw [stopKnobs] at hk
  cases hk

/-- ████ THE STATEMENT ████ -/
theorem proved : Rows.FnSamplesAddScriptReadsBackToldSaid :=
  Claim7.holds_of_told_any 5 Tryf.f5 _ _ [] _ _ _ (by kernel_rfl) rfl rfl rfl laidOut (by kernel_rfl) rfl ⟨rfl, rfl, rfl, rfl, rfl, rfl, rfl⟩ rfl rfl (by kernel_rfl) (by kernel_rfl) Tryf.func5 (by kernel_rfl)
    (of_decide_eq_true (by kernel_rfl)) (of_decide_eq_true (by kernel_rfl)) stops.symm rfl stopKnobs.symm (by kernel_rfl)
    (by kernel_rfl) (by kernel_rfl) (by kernel_rfl) (by kernel_rfl) (by kernel_rfl) (by kernel_rfl) (by kernel_rfl) (by kernel_rfl) (by kernel_rfl) rfl (by kernel_rfl) rfl rfl
    rfl rfl
    rfl (by kernel_rfl) (by kernel_rfl) (by kernel_rfl) (by decide) (by kernel_rfl)
    (OpenClaim.moreEntering_of (by kernel_rfl) (by kernel_rfl) (by kernel_rfl) (by kernel_rfl) (by kernel_rfl) (by kernel_rfl) (by kernel_rfl) (by kernel_rfl) (by kernel_rfl) (by kernel_rfl))
    ⟨_, WideRow.started_initial, quiet _⟩
    (fun os started _ H enc _ => lifted os started H enc)
end Go.Proofs.Qxb6606004aFmt.readsBack
