/-
  From the row's reading of a slice of numbers to what the walks ask.
-/
import Derived.Test.Qxb6615810aKeys
import Derived.ProofKit
import Derived.OpenShut
import Derived.ShutString
import Derived.ChangeOld
import Derived.Below
namespace Go.Proofs.Qxb6615810a
open Go.ChangeShapes Go.WideShapes Go.ChangeAt Go.RowKit

theorem own : ownKnob Try.prog.godebug = none := by kernel_rfl
theorem laidOut : laidOutB Try.prog = true := by kernel_rfl
theorem cells3 : Try.prog.cellsOf 3 = 1 := by kernel_rfl

/-- A slice of numbers that came in. -/
theorem open_ats {H : Type} {enc : TypeId × Value → H} {W : World} {a : Option Addr} {len cap : Nat} {x : DataW H × List MemPlace} {fuel : Nat} (h : DataW.trod enc Try.prog W 0 (fun _ => true) true fuel 24 (Value.slice a len cap).cells.toList = some x) :
    ∃ zs, len ≤ 9223372036854775807 ∧ (a = none → len = 0) ∧ Ats W a len zs := by
  rcases open_ints Try.underlying24 Try.underlying3 cells3 h with ⟨hcs, _⟩ | ⟨y, l, c, zs, hcs, _, hl, hm, hz, _, hcell, hwz⟩
  · simp [Value.cells] at hcs
    obtain ⟨rfl, rfl, rfl⟩ := hcs
    exact ⟨[], by omega, fun _ => rfl, fun h => by omega⟩
  · simp [Value.cells] at hcs
    obtain ⟨rfl, rfl, rfl⟩ := hcs
    simp at hz
    unfold maxLen at hm
    exact ⟨zs, by omega, (fun h => by cases h), ats_of hcell (by omega)⟩

end Go.Proofs.Qxb6615810a
