/-
  From the row's reading of the arguments to what the walks ask.
-/
import Derived.Test.Qxb6615808aRuns
import Derived.WalkKit
import Derived.ProofKit
import Derived.OpenShut
import Derived.ShutString
import Derived.ChangeOld
import Derived.Below
import Derived.SliceStrings
namespace Go.Proofs.Qxb6615808a
open Go.ChangeShapes Go.WideShapes Go.ChangeAt Go.RowKit
open Go.ChangeMaps (open_string shut_string)

theorem own : ownKnob Try.prog.godebug = Option.none := by kernel_rfl
theorem laidOut : laidOutB Try.prog = true := by kernel_rfl
theorem Try.cells3 : Try.prog.cellsOf 3 = 1 := by kernel_rfl
theorem Try.cells9 : Try.prog.cellsOf 9 = 1 := by kernel_rfl

theorem spot_none {w : World} {a : Addr} {v : Value} (h : w.cell? a = some v) : ∃ b off, a = ⟨b, off, none⟩ := by
  obtain ⟨b, off, s⟩ := a
  unfold World.cell? at h
  cases s with
  | none => exact ⟨b, off, rfl⟩
  | some s =>
    split at h
    · simp at h
    · cases h
theorem add_lit (b off i : Nat) : (⟨b, off, none⟩ : Addr).add i = ⟨b, off + i, none⟩ := by
  unfold Addr.add
  split <;> simp_all

theorem ats_of {w : World} {x : Addr} {len : Nat} {zs : List Int} (h : ∀ i, i < zs.length → w.cell? (x.add i) = some (.int .i64 (zs.getD i 0))) (hl : len ≤ zs.length) : Ats w (some x) len zs := by
  intro hp
  have h0 := h 0 (by omega)
  rw [show x.add 0 = x from rfl] at h0
  obtain ⟨b, off, rfl⟩ := spot_none h0
  exact ⟨b, off, rfl, fun i hi => by rw [← add_lit]; exact h i (by omega)⟩
theorem strs_of {w : World} {x : Addr} {len : Nat} {ss : List ByteArray} (h : ∀ i, i < ss.length → w.cell? (x.add i) = some (.string (ss.getD i ByteArray.empty))) (hw : ∀ s ∈ ss, s.size ≤ maxLen) (hl : len ≤ ss.length) : Strs w (some x) len := by
  intro hp
  have h0 := h 0 (by omega)
  rw [show x.add 0 = x from rfl] at h0
  obtain ⟨b, off, rfl⟩ := spot_none h0
  refine ⟨b, off, rfl, fun i hi => ⟨ss.getD i ByteArray.empty, ?_, by rw [← add_lit]; exact h i (by omega)⟩⟩
  have hm : ss.getD i ByteArray.empty ∈ ss := by
    rw [List.getD_eq_getElem?_getD, List.getElem?_eq_getElem (show i < ss.length by omega)]
    simp
  have := hw _ hm
  unfold maxLen at this
  omega

/-- A slice of numbers that came in. -/
theorem open_ats {H : Type} {enc : TypeId × Value → H} {W : World} {a : Option Addr} {len cap : Nat} {x : DataW H × List MemPlace} {fuel : Nat} (h : DataW.trod enc Try.prog W 0 (fun _ => true) true fuel 23 (Value.slice a len cap).cells.toList = some x) :
    ∃ zs, len ≤ 9223372036854775807 ∧ (a = none → len = 0) ∧ Ats W a len zs := by
  rcases open_ints Try.underlying23 Try.underlying3 Try.cells3 h with ⟨hcs, _⟩ | ⟨y, l, c, zs, hcs, _, hl, hm, hz, _, hcell, hwz⟩
  · simp [Value.cells] at hcs
    obtain ⟨rfl, rfl, rfl⟩ := hcs
    exact ⟨[], by omega, fun _ => rfl, fun h => by omega⟩
  · simp [Value.cells] at hcs
    obtain ⟨rfl, rfl, rfl⟩ := hcs
    simp at hz
    unfold maxLen at hm
    exact ⟨zs, by omega, (fun h => by cases h), ats_of hcell (by omega)⟩
/-- A slice of strings that came in. -/
theorem open_strs {H : Type} {enc : TypeId × Value → H} {W : World} {a : Option Addr} {len cap : Nat} {x : DataW H × List MemPlace} {fuel : Nat} (h : DataW.trod enc Try.prog W 0 (fun _ => true) true fuel 22 (Value.slice a len cap).cells.toList = some x) :
    len ≤ 9223372036854775807 ∧ (a = none → len = 0) ∧ Strs W a len := by
  rcases open_strings Try.underlying22 Try.underlying9 Try.cells9 h with ⟨hcs, _⟩ | ⟨y, l, c, ss, hcs, _, hl, hm, hz, _, hcell, hws⟩
  · simp [Value.cells] at hcs
    obtain ⟨rfl, rfl, rfl⟩ := hcs
    exact ⟨by omega, fun _ => rfl, fun h => by omega⟩
  · simp [Value.cells] at hcs
    obtain ⟨rfl, rfl, rfl⟩ := hcs
    simp at hz
    unfold maxLen at hm
    exact ⟨by omega, (fun h => by cases h), strs_of hcell hws (by omega)⟩

end Go.Proofs.Qxb6615808a
