/-
  Facts on fmt's stopped front, errors.New, fmt.Errorf; maps that the call itself has made, keyed by strings.
-/
import Derived.Test.Qxb6614660aFmtCards
import Derived.WalkKit
import Derived.WalkSpells
import Derived.WalkLawsBesides
import Derived.Stop.CallBack
import Derived.Stop.IfaceNil
import Derived.MapKept
namespace Go.Proofs.Qxb6614660aFmt
open Go.RowKit Go.Extern.Stop Go.Stop Go.Extern

theorem call14 (args : Array Value) (w : World) : (callFunc 14 args).run Tryf.prog w = ((FmtStop.errorf #[9, 42] #[33] args).run Tryf.prog w).andThen fun v w' => .ok (.value v) w' :=
  run_callFunc_extern Tryf.func14 (by kernel_rfl) (by kernel_rfl) (by kernel_rfl) (by kernel_rfl) args w
theorem guardF (name : String) (w : World) : (FmtStop.guard name).run Tryf.prog w = .ok () w := by kernel_rfl
theorem fmt0 : FmtStop.printed? ⟨#[97, 116, 99, 32, 104, 97, 115, 32, 110, 111, 32, 115, 116, 114, 105, 110, 103, 32, 109, 101, 109, 98, 101, 114, 32, 37, 113]⟩ 1 = some [(0, 113, false)] := by kernel_rfl
theorem fmt0r (w : World) : (FmtDoors.printed ⟨#[97, 116, 99, 32, 104, 97, 115, 32, 110, 111, 32, 115, 116, 114, 105, 110, 103, 32, 109, 101, 109, 98, 101, 114, 32, 37, 113]⟩ 1).run Tryf.prog w = .ok [(0, 113, false)] w := by kernel_rfl
def shape9 : List UInt8 := [12, 6, 0, 0, 0, 0, 0, 0, 0, 115, 116, 114, 105, 110, 103]
theorem op9_113 (name : String) (x : ByteArray) (w : World) : (FmtStop.operand name false 113 false (.iface 9 (.string x))).run Tryf.prog w = .ok (shape9, FmtStop.pack x.data.toList) w := by kernel_rfl
theorem op9_113w (name : String) (x : ByteArray) (w : World) : (FmtStop.operand name true 113 false (.iface 9 (.string x))).run Tryf.prog w = .ok (shape9, FmtStop.pack x.data.toList) w := by kernel_rfl
theorem ptr44 (w : World) : (FmtStop.ptrTo "errors.errorString").run Tryf.prog w = .ok 44 w := by kernel_rfl
theorem elem44 (w : World) : (elemOf 44).run Tryf.prog w = .ok 46 w := by kernel_rfl
theorem isError44 (w : World) : (FmtDoors.textMethod 44 "Error").run Tryf.prog w = .ok true w := by kernel_rfl
attribute [local go_sem] call14 guardF fmt0 fmt0r op9_113 op9_113w ptr44 elem44 isError44

set_option maxHeartbeats 400000 in
/-- fmt.Errorf at the one format and one string: a new error; nothing else turns. -/
theorem errorf_any (F : Interp) (x : ByteArray) (blk : Nat) (w : World) (hF : F.answers w.tape) (hc0 : w.cell? ⟨blk, 0, none⟩ = some (.iface 9 (.string x))) :
    Calls Tryf.prog 12 #[.string ⟨#[97, 116, 99, 32, 104, 97, 115, 32, 110, 111, 32, 115, 116, 114, 105, 110, 103, 32, 109, 101, 109, 98, 101, 114, 32, 37, 113]⟩, .slice (some ⟨blk, 0, none⟩) 1 1] w fun e w' =>
      e = .returned (.iface 44 (.pointer (some ⟨w.heap.size, 0, none⟩))) ∧ Below w.heap.size w w' := by
  have hF' := answers_open hF
  go_enter Tryf.func12, Tryf.ntmps12
  go_wp2
  go_ret
  exact ⟨rfl, ((Below.refl _ _).alloc (Nat.le_refl _) _).drew⟩


theorem hide {p : Prop} (h : p) : Hid p := h
/-- It returns one bool or the other. -/
def RetB (e : Ending) : Prop := ∃ b : Bool, e = .returned (.bool b)

/-- Block b is the map of these entries, keyed by strings. -/
def MapIs (w : World) (b : Nat) (es : Array MapEntry) (c : Nat) : Prop := w.heap[b]? = some (.map es c)
/-- What a look at the key k finds. -/
def look (es : Array MapEntry) (k : ByteArray) : Option (Option (Nat × Value)) := Instr.findNow .string (.string k) es.toList 0

/-- All blocks but b stay; no block is new. -/
structure Only (g : Nat) (w w' : World) : Prop where
  os : w'.os = w.os
  tape : w'.tape = w.tape
  output : w'.output = w.output
  size : w'.heap.size = w.heap.size
  block : ∀ k, k ≠ g → w'.heap[k]? = w.heap[k]?

theorem MapIs.lt {w : World} {b : Nat} {es : Array MapEntry} {c : Nat} (h : MapIs w b es c) : b < w.heap.size := (Array.getElem?_eq_some_iff.1 h).1
theorem MapIs.below {w w' : World} {b B : Nat} {es : Array MapEntry} {c : Nat} (h : MapIs w b es c) (hb : Below B w w') (hB : b < B) : MapIs w' b es c := (hb.block b hB).trans h
theorem MapIs.only {w w' : World} {g b : Nat} {es : Array MapEntry} {c : Nat} (h : MapIs w b es c) (hb : Only g w w') (hB : b ≠ g) : MapIs w' b es c := (hb.block b hB).trans h
theorem Only.below {g B : Nat} {a b : World} (h : Only g a b) (hB : B ≤ g) : Below B a b := ⟨h.os, h.tape, h.output, by rw [h.size]; exact Nat.le_refl _, fun k hk => h.block k (by omega)⟩

def putMap (w : World) (b : Nat) (es : Array MapEntry) (c : Nat) : World := { w with heap := w.heap.setIfInBounds b (.map es c) }
theorem put_is {w : World} {b : Nat} (h : b < w.heap.size) (es : Array MapEntry) (c : Nat) : MapIs (putMap w b es c) b es c := by
  simp [MapIs, putMap, h]
theorem put_only (w : World) (b : Nat) (es : Array MapEntry) (c : Nat) : Only b w (putMap w b es c) :=
  ⟨rfl, rfl, rfl, by simp [putMap], fun k hk => by simp [putMap, Ne.symm hk]⟩

theorem key_any (e : Bool) (k : ByteArray) (w : World) : (Instr.checkKey e 10000 9 (.string k)).run Tryf.prog w = .ok () w := by kernel_rfl

theorem find_run {es : Array MapEntry} {k : ByteArray} {r : Option (Nat × Value)} (h : look es k = some r) (w : World) : (Instr.findKey 9 (.string k) es.toList).run Tryf.prog w = .ok r w := by
  unfold look at h
  simp [Instr.findKey, run_underlying, Tryf.underlying9, h]

theorem look_run {w : World} {b : Nat} {es : Array MapEntry} {c : Nat} (hm : MapIs w b es c) {k : ByteArray} {i : Nat} {v : Value} (h : look es k = some (some (i, v))) :
    (Instr.lookup 24 (.map (some b)) (.string k) false).run Tryf.prog w = .ok v w := by
  simp [Instr.lookup, run_underlying, Tryf.underlying24, MapKept.run_getObj_map hm, key_any, find_run h]
theorem look_none {w : World} {b : Nat} {es : Array MapEntry} {c : Nat} (hm : MapIs w b es c) {k : ByteArray} (h : look es k = some none) :
    (Instr.lookup 24 (.map (some b)) (.string k) false).run Tryf.prog w = .ok .nilIface w := by
  simp [Instr.lookup, run_underlying, Tryf.underlying24, MapKept.run_getObj_map hm, key_any, find_run h]
theorem look_none2 {w : World} {b : Nat} {es : Array MapEntry} {c : Nat} (hm : MapIs w b es c) {k : ByteArray} (h : look es k = some none) :
    (Instr.lookup 24 (.map (some b)) (.string k) true).run Tryf.prog w = .ok (.tuple #[.nilIface, .bool false]) w := by
  simp [Instr.lookup, run_underlying, Tryf.underlying24, MapKept.run_getObj_map hm, key_any, find_run h]

theorem add_run {w : World} {b : Nat} {es : Array MapEntry} {c : Nat} (hm : MapIs w b es c) {k : ByteArray} (h : look es k = some none) (v : Value) :
    (Instr.mapUpdate 24 (.map (some b)) (.string k) v).run Tryf.prog w = .ok () (putMap w b (es.push ⟨.string k, v, c⟩) (c + 1)) := by
  simp [Instr.mapUpdate, run_underlying, Tryf.underlying24, MapKept.run_getObj_map hm, key_any, find_run h, MapKept.run_setObj_map _ hm, putMap]
theorem turn_run {w : World} {b : Nat} {es : Array MapEntry} {c : Nat} (hm : MapIs w b es c) {k : ByteArray} {i : Nat} {u : Value} (h : look es k = some (some (i, u))) (hk : (es[i]?).map (·.key) = some (.string k)) (v : Value) :
    (Instr.mapUpdate 24 (.map (some b)) (.string k) v).run Tryf.prog w = .ok () (putMap w b (es.modify i fun e => { e with key := .string k, val := v }) c) := by
  have hs : (Instr.keyThatStays (.string k) (.string k)).run Tryf.prog w = .ok (.string k) w := by
    simp [Instr.keyThatStays, Instr.sameBits, (MapKept.bytes_beq k k).2 rfl]
  simp [Instr.mapUpdate, run_underlying, Tryf.underlying24, MapKept.run_getObj_map hm, key_any, find_run h, MapKept.run_setObj_map _ hm, putMap, hk, hs]
theorem drop_run {w : World} {b : Nat} {es : Array MapEntry} {c : Nat} (hm : MapIs w b es c) {k : ByteArray} {i : Nat} {u : Value} (h : look es k = some (some (i, u))) (t : TypeId) :
    (Builtin.delete_ #[24, 9] t #[.map (some b), .string k]).run Tryf.prog w = .ok (.tuple #[]) (putMap w b (es.eraseIdxIfInBounds i) c) := by
  simp [Builtin.delete_, run_underlying, Tryf.underlying24, MapKept.run_getObj_map hm, key_any, find_run h, MapKept.run_setObj_map _ hm, putMap]

end Go.Proofs.Qxb6614660aFmt
