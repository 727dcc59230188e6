/-
  'Rows.FnEmptyCausalPastPlacesInvertLayoutAndRowsBlankSaid', proved.
-/
import Derived.Test.Qxb6615810aEmpty
import Derived.Deep.Matrix
import Derived.ProofKit
import Derived.OpenShut
import Derived.ShutString
import Derived.ChangeOld
import Derived.Below
namespace Go.Proofs.Qxb6615810a.fnEmptyCausalPastPlacesInvertLayoutAndRowsBlank
open Go.ChangeShapes Go.WideShapes Go.ChangeAt Go.RowKit Go.Deep
open Go.ChangeMaps (open_string shut_string)
set_option linter.unusedVariables false

theorem own : ownKnob Try.prog.godebug = none := by kernel_rfl
theorem laidOut : laidOutB Try.prog = true := by kernel_rfl
theorem cells3 : Try.prog.cellsOf 3 = 1 := by kernel_rfl
theorem cells24 : Try.prog.cellsOf 24 = 1 := by kernel_rfl

/-- A slice of slices of numbers that came in. -/
theorem open_rws {H : Type} {enc : TypeId × Value → H} {W : World} {a : Option Addr} {len cap : Nat} {x : DataW H × List MemPlace} {fuel : Nat} (h : DataW.trod enc Try.prog W 0 (fun _ => true) true fuel 22 (Value.slice a len cap).cells.toList = some x) :
    ∃ A L C X, len ≤ 9223372036854775807 ∧ Rws W a len A L C X := by
  rcases open_int_rows Try.underlying22 Try.underlying24 Try.underlying3 cells24 cells3 h with ⟨hcs, _⟩ | ⟨y, l, c, A, L, C, Z, hcs, _, hl, hm, _, hall⟩
  · simp [Value.cells] at hcs
    obtain ⟨rfl, rfl, rfl⟩ := hcs
    exact ⟨fun _ => none, fun _ => 0, fun _ => 0, fun _ => [], by omega, fun h => by omega⟩
  · simp [Value.cells] at hcs
    obtain ⟨rfl, rfl, rfl⟩ := hcs
    unfold maxLen at hm
    refine ⟨A, L, C, Z, by omega, fun hp => ?_⟩
    have h0 := (hall 0 (by omega)).1
    rw [show y.add 0 = y from rfl] at h0
    obtain ⟨b, off, rfl⟩ := spot_none h0
    refine ⟨b, off, rfl, fun s hs => ?_⟩
    obtain ⟨e1, e2, e3, e4, _, e5, e6⟩ := hall s (by omega)
    unfold maxLen at e3
    refine ⟨by rw [← add_lit]; exact e1, by omega, ?_⟩
    cases hA : A s with
    | none =>
      intro hp'
      have := e5 hA
      omega
    | some a' =>
      refine ats_of (fun i hi => ?_) (by omega)
      exact (e6 a' hA).2 i (by omega)

set_option maxRecDepth 100000 in
theorem lifted (os : Os) (started : os.Started) (H : Type) (enc : TypeId × Value → H) :
    ReturnsInHanded {} Try.checked os 3 .any (Rows.fnEmptyCausalPastPlacesInvertLayoutAndRowsBlankSpec.pre6 enc Try.prog Try.f3 Rows.fnEmptyCausalPastPlacesInvertLayoutAndRowsBlankRow.domain false) (Rows.fnEmptyCausalPastPlacesInvertLayoutAndRowsBlankSpec.post enc Try.prog Try.f3 false true false false) := by
  refine returnsInHanded_of_change (C := Try.checked) own started (by kernel_rfl) Try.func3
    (ChangeSpec.witness6 (enc := enc) (C := Try.checked) false ⟨#[], #[.slice none 0 0], []⟩ 8 (by kernel_rfl) (by kernel_rfl) (by kernel_rfl) (by kernel_rfl)) ?_
  intro W base args ds gs before hval0 hW hcnd _
  have hval : ∀ (j : Nat) t v, Try.f3.params[j]? = some t → args[j]? = some v → Value.okWide Try.prog W .any base t v := hval0
  have hW' := hW
  obtain ⟨p, q, hA0, hV, rfl, hfz, hnd⟩ := hW
  have hA : DataW.TrodAll enc Try.prog W 0 (fun _ => true) true Try.f3.params.toList args.toList ds p := hA0
  rw [Try.params3] at hA hval
  obtain ⟨v0, vs0, d0, ds0, p0, q0, hargs, rfl, rfl, h0, r0⟩ := trodAll_cons hA
  obtain ⟨rfl, rfl, rfl⟩ := trodAll_nil r0
  obtain rfl : args = #[v0] := by cases args; simp_all
  obtain ⟨rfl, rfl⟩ := trodVars_none hV
  obtain ⟨a0, len0, cap0, rfl⟩ := okWide_slice Try.underlying22 (hval 0 22 v0 rfl rfl)
  have k0 := h0
  have lt0 : ∀ x ∈ p0, x.block < W.heap.size := by obtain ⟨m, hm⟩ := k0; exact DataW.trod_lt m _ _ _ hm
  obtain ⟨A, L, C, X, m0, s0⟩ := open_rws h0.choose_spec
  clear hA0 hval0
  refine (walk3 a0 len0 cap0 A L C X W m0 s0).mono fun e W' ⟨he, bel⟩ => ?_
  subst he
  exact ⟨_, rfl, _, _, _, [], _, [], hW', trodAll_mk1 (shut_bool Try.underlying4 _), (trodAll_cons_mk (Below.trod laidOut (by kernel_rfl) (of_decide_eq_true (by kernel_rfl)) k0 bel lt0) trodAll_mk0), rfl, bel.frame _, fun h => by cases h⟩

theorem over : Rows.fnEmptyCausalPastPlacesInvertLayoutAndRowsBlankRow.holds Try.pinned (OpenSpec.ofChange Rows.fnEmptyCausalPastPlacesInvertLayoutAndRowsBlankSpec) :=
  OpenClaim.holds_of_wide 3 Try.f3 rfl rfl rfl rfl rfl rfl rfl ⟨rfl, rfl, rfl, rfl, rfl⟩ rfl rfl rfl rfl rfl (by kernel_rfl) Try.func3 (by kernel_rfl)
    (of_decide_eq_true (by kernel_rfl)) (by unfold Func.isWrapper; first | (rw [if_pos (by decide +kernel)]; kernel_rfl) | (rw [if_neg (by decide +kernel)]; exact ⟨rfl, rfl⟩))
    (fun os started H enc _ => lifted os started H enc)

theorem proved : Rows.FnEmptyCausalPastPlacesInvertLayoutAndRowsBlankSaid := over
end Go.Proofs.Qxb6615810a.fnEmptyCausalPastPlacesInvertLayoutAndRowsBlank
