/-
  What a look at a member's name finds in the maps of the law: as they are laid, with one member turned into a bool, with one member struck. No Go in sight.
-/
import Derived.Test.Qxb6614660aFmtSmall
namespace Go.Proofs.Qxb6614660aFmt
open Go.RowKit Go.Extern.Stop Go.Stop Go.Extern

/-- k is no member's name. -/
def NoMember (k : ByteArray) : Prop := k ≠ kT ∧ k ≠ kV ∧ k ≠ kF ∧ k ≠ kC

theorem beq_no {a b : ByteArray} (h : a ≠ b) : (a == b) = false := by
  cases e : a == b
  · rfl
  · exact absurd ((MapKept.bytes_beq a b).1 e) h

/-- The three members, and perhaps one more that is none of the four. -/
def Laid (a b c : ByteArray) (es : Array MapEntry) : Prop :=
  es = base3 a b c ∨ ∃ k v, NoMember k ∧ es = (base3 a b c).push ⟨.string k, .iface 9 (.string v), 3⟩

def IsStr (es : Array MapEntry) (k : ByteArray) : Prop := ∃ i s, look es k = some (some (i, .iface 9 (.string s)))
/-- The first member that is no string is one of the three. -/
def Broken (es : Array MapEntry) : Prop := Bad es kT ∨ (IsStr es kT ∧ Bad es kV) ∨ (IsStr es kT ∧ IsStr es kV ∧ Bad es kF)

theorem look_extra {a b c k : ByteArray} (h : NoMember k) : look (base3 a b c) k = some none := by
  show Instr.findNow .string (.string k) [⟨.string kT, .iface 9 (.string a), 0⟩, ⟨.string kV, .iface 9 (.string b), 1⟩, ⟨.string kF, .iface 9 (.string c), 2⟩] 0 = some none
  simp [Instr.findNow, Instr.sameNow, beq_no h.1, beq_no h.2.1, beq_no h.2.2.1]

theorem laid_looks {a b c : ByteArray} {es : Array MapEntry} (h : Laid a b c es) :
    look es kT = some (some (0, .iface 9 (.string a))) ∧ look es kV = some (some (1, .iface 9 (.string b))) ∧ look es kF = some (some (2, .iface 9 (.string c))) ∧ look es kC = some none := by
  rcases h with rfl | ⟨k, v, hk, rfl⟩
  · exact ⟨rfl, rfl, rfl, rfl⟩
  · refine ⟨rfl, rfl, rfl, ?_⟩
    show Instr.findNow .string (.string kC) [⟨.string kT, .iface 9 (.string a), 0⟩, ⟨.string kV, .iface 9 (.string b), 1⟩, ⟨.string kF, .iface 9 (.string c), 2⟩, ⟨.string k, .iface 9 (.string v), 3⟩] 0 = some none
    have e1 : (kC == kT) = false := rfl
    have e2 : (kC == kV) = false := rfl
    have e3 : (kC == kF) = false := rfl
    simp [Instr.findNow, Instr.sameNow, e1, e2, e3, beq_no (Ne.symm hk.2.2.2)]

theorem look_erase (es : Array MapEntry) (i : Nat) (k : ByteArray) : look (es.eraseIdxIfInBounds i) k = Instr.findNow .string (.string k) (es.toList.eraseIdx i) 0 := by
  simp [look]

/-- The place of the n-th member. -/
theorem laid_hit {a b c : ByteArray} {es : Array MapEntry} (h : Laid a b c es) {n : Int} (h0 : 0 ≤ n) (h2 : n ≤ 2) :
    ∃ i u, look es (nameOf n) = some (some (i, u)) ∧ (es[i]?).map (·.key) = some (.string (nameOf n)) ∧
      Broken (es.modify i fun e => { e with key := .string (nameOf n), val := .iface 4 (.bool true) }) ∧ Broken (es.eraseIdxIfInBounds i) := by
  obtain ⟨l0, l1, l2, _⟩ := laid_looks h
  have e1 : (kT == kV) = false := rfl
  have e2 : (kT == kF) = false := rfl
  have e3 : (kV == kT) = false := rfl
  have e4 : (kV == kF) = false := rfl
  have e5 : (kF == kT) = false := rfl
  have e6 : (kF == kV) = false := rfl
  obtain rfl | rfl | rfl : n = 0 ∨ n = 1 ∨ n = 2 := by omega
  · refine ⟨0, _, l0, ?_, .inl (.inr ⟨0, ?_⟩), .inl (.inl ?_)⟩
    · rcases h with rfl | ⟨k, v, hk, rfl⟩ <;> rfl
    · rcases h with rfl | ⟨k, v, hk, rfl⟩ <;> rfl
    · rw [look_erase]
      rcases h with rfl | ⟨k, v, hk, rfl⟩
      · rfl
      · show Instr.findNow .string (.string kT) [⟨.string kV, .iface 9 (.string b), 1⟩, ⟨.string kF, .iface 9 (.string c), 2⟩, ⟨.string k, .iface 9 (.string v), 3⟩] 0 = some none
        simp [Instr.findNow, Instr.sameNow, e1, e2, beq_no (Ne.symm hk.1)]
  · refine ⟨1, _, l1, ?_, .inr (.inl ⟨⟨0, a, ?_⟩, .inr ⟨1, ?_⟩⟩), .inr (.inl ⟨⟨0, a, ?_⟩, .inl ?_⟩)⟩
    · rcases h with rfl | ⟨k, v, hk, rfl⟩ <;> rfl
    · rcases h with rfl | ⟨k, v, hk, rfl⟩ <;> rfl
    · rcases h with rfl | ⟨k, v, hk, rfl⟩ <;> rfl
    · rw [look_erase]
      rcases h with rfl | ⟨k, v, hk, rfl⟩ <;> rfl
    · rw [look_erase]
      rcases h with rfl | ⟨k, v, hk, rfl⟩
      · rfl
      · show Instr.findNow .string (.string kV) [⟨.string kT, .iface 9 (.string a), 0⟩, ⟨.string kF, .iface 9 (.string c), 2⟩, ⟨.string k, .iface 9 (.string v), 3⟩] 0 = some none
        simp [Instr.findNow, Instr.sameNow, e3, e4, beq_no (Ne.symm hk.2.1)]
  · refine ⟨2, _, l2, ?_, .inr (.inr ⟨⟨0, a, ?_⟩, ⟨1, b, ?_⟩, .inr ⟨2, ?_⟩⟩), .inr (.inr ⟨⟨0, a, ?_⟩, ⟨1, b, ?_⟩, .inl ?_⟩)⟩
    · rcases h with rfl | ⟨k, v, hk, rfl⟩ <;> rfl
    · rcases h with rfl | ⟨k, v, hk, rfl⟩ <;> rfl
    · rcases h with rfl | ⟨k, v, hk, rfl⟩ <;> rfl
    · rcases h with rfl | ⟨k, v, hk, rfl⟩ <;> rfl
    · rw [look_erase]
      rcases h with rfl | ⟨k, v, hk, rfl⟩ <;> rfl
    · rw [look_erase]
      rcases h with rfl | ⟨k, v, hk, rfl⟩ <;> rfl
    · rw [look_erase]
      rcases h with rfl | ⟨k, v, hk, rfl⟩
      · rfl
      · show Instr.findNow .string (.string kF) [⟨.string kT, .iface 9 (.string a), 0⟩, ⟨.string kV, .iface 9 (.string b), 1⟩, ⟨.string k, .iface 9 (.string v), 3⟩] 0 = some none
        simp [Instr.findNow, Instr.sameNow, e5, e6, beq_no (Ne.symm hk.2.2.1)]

/-- 'ParseATC' refuses a broken object. -/
theorem parse_broken (F : Interp) {w : World} {b : Nat} {es : Array MapEntry} {c : Nat} (hF : F.answers w.tape) (hm : MapIs w b es c) (h : Broken es) :
    Calls Tryf.prog 11 #[.map (some b)] w fun e w' => (∃ a : Addr, e = .returned (.tuple #[.string ByteArray.empty, .agg #[.string ByteArray.empty, .string ByteArray.empty, .bool false], .iface 44 (.pointer (some a))])) ∧ Below w.heap.size w w' := by
  rcases h with h | ⟨⟨i0, s0, h0⟩, h⟩ | ⟨⟨i0, s0, h0⟩, ⟨i1, s1, h1⟩, h⟩
  · exact parse_bad0 F hF hm h
  · exact parse_bad1 F hF hm h0 h
  · exact parse_bad2 F hF hm h0 h1 h

/-- .. and takes one as it is laid. -/
theorem parse_laid {w : World} {b : Nat} {x y z : ByteArray} {es : Array MapEntry} {c : Nat} (hm : MapIs w b es c) (h : Laid x y z es) :
    Calls Tryf.prog 11 #[.map (some b)] w fun e w' => e = .returned (.tuple #[.string x, .agg #[.string y, .string z, .bool false], .nilIface]) ∧ Below w.heap.size w w' := by
  obtain ⟨l0, l1, l2, lC⟩ := laid_looks h
  exact parse_good hm l0 l1 l2 lC

/-- One member turned into a bool, one struck. -/
theorem turn_laid {w : World} {b : Nat} {x y z : ByteArray} {es : Array MapEntry} {c : Nat} (hm : MapIs w b es c) (h : Laid x y z es) {n : Int} (h0 : 0 ≤ n) (h2 : n ≤ 2) :
    Calls Tryf.prog 9 #[.map (some b), .string (nameOf n), .bool true] w fun e w' => e = .returned (.tuple #[]) ∧ (∃ es', MapIs w' b es' c ∧ Broken es') ∧ Only b w w' := by
  obtain ⟨i, u, hl, hk, hb, _⟩ := laid_hit h h0 h2
  refine (set9 hm hl hk).mono ?_
  rintro e w' ⟨rfl, h1, h2⟩
  exact ⟨rfl, ⟨_, h1, hb⟩, h2⟩
theorem strike_laid {w : World} {b : Nat} {x y z : ByteArray} {es : Array MapEntry} {c : Nat} (hm : MapIs w b es c) (h : Laid x y z es) {n : Int} (h0 : 0 ≤ n) (h2 : n ≤ 2) :
    Calls Tryf.prog 10 #[.map (some b), .string (nameOf n)] w fun e w' => e = .returned (.tuple #[]) ∧ (∃ es', MapIs w' b es' c ∧ Broken es') ∧ Only b w w' := by
  obtain ⟨i, u, hl, hk, _, hb⟩ := laid_hit h h0 h2
  refine (drop10 hm hl).mono ?_
  rintro e w' ⟨rfl, h1, h2⟩
  exact ⟨rfl, ⟨_, h1, hb⟩, h2⟩

end Go.Proofs.Qxb6614660aFmt
