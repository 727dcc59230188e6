/-
  The walks of the small functions: 4 .. 10.
-/
import Derived.Test.Qxb6614660aFmtParse
namespace Go.Proofs.Qxb6614660aFmt
open Go.RowKit

theorem bytes4 (a b c : ByteArray) (n : Int) (f : Bool) (d g : ByteArray) (w : World) (ha : a.size ≤ 9223372036854775807) (hb : b.size ≤ 9223372036854775807) (hc : c.size ≤ 9223372036854775807) (hd : d.size ≤ 9223372036854775807) (hg : g.size ≤ 9223372036854775807) :
    Calls Tryf.prog 4 #[.string a, .string b, .string c, .int .i64 n, .bool f, .string d, .string g] w fun e w' => RetB e ∧ w' = w := by
  go_enter Tryf.func4, Tryf.ntmps4
  by_cases h0 : 1048576 < a.size
  · go_wp2
    go_ret
    exact ⟨⟨_, rfl⟩, rfl⟩
  by_cases h1 : 1048576 < b.size
  · go_wp2
    go_ret
    exact ⟨⟨_, rfl⟩, rfl⟩
  by_cases h2 : 1048576 < a.size + b.size
  · go_wp2
    go_ret
    exact ⟨⟨_, rfl⟩, rfl⟩
  by_cases h3 : 1048576 < c.size
  · go_wp2
    go_ret
    exact ⟨⟨_, rfl⟩, rfl⟩
  by_cases h4 : 1048576 < a.size + b.size + c.size
  · go_wp2
    go_ret
    exact ⟨⟨_, rfl⟩, rfl⟩
  by_cases h5 : 1048576 < d.size
  · go_wp2
    go_ret
    exact ⟨⟨_, rfl⟩, rfl⟩
  by_cases h6 : 1048576 < a.size + b.size + c.size + d.size
  · go_wp2
    go_ret
    exact ⟨⟨_, rfl⟩, rfl⟩
  by_cases h7 : 1048576 < g.size
  · go_wp2
    go_ret
    exact ⟨⟨_, rfl⟩, rfl⟩
  by_cases h8 : 1048576 < a.size + b.size + c.size + d.size + g.size
  · go_wp2
    go_ret
    exact ⟨⟨_, rfl⟩, rfl⟩
  go_wp2
  go_ret
  exact ⟨⟨_, rfl⟩, rfl⟩

theorem ret_bool {a b : Bool} (h : a = b) : Ending.returned (.bool a) = .returned (.bool b) := by rw [h]
/-- It says that k is one of the four members' names; or it says no, and k is none of them. -/
def Memb (k : ByteArray) (e : Ending) : Prop := e = .returned (.bool true) ∨ (e = .returned (.bool false) ∧ k ≠ kT ∧ k ≠ kV ∧ k ≠ kF ∧ k ≠ kC)

theorem mem5 (k : ByteArray) (w : World) : Calls Tryf.prog 5 #[.string k] w fun e w' => Memb k e ∧ w' = w := by
  go_enter Tryf.func5, Tryf.ntmps5
  by_cases h1 : k.toList = [116, 107, 116, 121, 112, 101]
  · go_wp2
    go_ret
    exact ⟨.inl rfl, rfl⟩
  by_cases h2 : k.toList = [116, 107, 118, 97, 108, 117, 101]
  · go_wp2
    go_ret
    exact ⟨.inl rfl, rfl⟩
  by_cases h3 : k.toList = [102, 105, 110, 103, 101, 114, 112, 114, 105, 110, 116]
  · go_wp2
    go_ret
    exact ⟨.inl rfl, rfl⟩
  by_cases h4 : k.toList = [99, 97]
  · go_wp2
    go_ret
    exact ⟨.inl rfl, rfl⟩
  go_wp2
  go_ret
  refine ⟨.inr ⟨ret_bool (a := k.toList == [116, 107, 116, 121, 112, 101] || k.toList == [116, 107, 118, 97, 108, 117, 101] || k.toList == [102, 105, 110, 103, 101, 114, 112, 114, 105, 110, 116] || k.toList == [99, 97]) (by simp [h1, h2, h3, h4]), ?_, ?_, ?_, ?_⟩, rfl⟩
  · rintro rfl; exact h1 (by simp [kT, go_sem])
  · rintro rfl; exact h2 (by simp [kV, go_sem])
  · rintro rfl; exact h3 (by simp [kF, go_sem])
  · rintro rfl; exact h4 (by simp [kC, go_sem])

def nameOf (n : Int) : ByteArray := if n = 0 then kT else if n = 1 then kV else kF
theorem name8 (n : Int) (w : World) (h0 : 0 ≤ n) (h2 : n ≤ 2) : Calls Tryf.prog 8 #[.int .i64 n] w fun e w' => e = .returned (.string (nameOf n)) ∧ w' = w := by
  obtain rfl | rfl | rfl : n = 0 ∨ n = 1 ∨ n = 2 := by omega
  · go_enter Tryf.func8, Tryf.ntmps8
    go_wp2
    go_ret
    exact ⟨rfl, rfl⟩
  · go_enter Tryf.func8, Tryf.ntmps8
    go_wp2
    go_ret
    exact ⟨rfl, rfl⟩
  · go_enter Tryf.func8, Tryf.ntmps8
    go_wp2
    go_ret
    exact ⟨rfl, rfl⟩

/-- The three members, as 'ZZatcObject' lays them. -/
def base3 (a b c : ByteArray) : Array MapEntry := #[⟨.string kT, .iface 9 (.string a), 0⟩, ⟨.string kV, .iface 9 (.string b), 1⟩, ⟨.string kF, .iface 9 (.string c), 2⟩]

theorem obj6 (a b c : ByteArray) (w : World) : Calls Tryf.prog 6 #[.string a, .string b, .string c] w fun e w' => e = .returned (.map (some w.heap.size)) ∧ MapIs w' w.heap.size (base3 a b c) 3 ∧ Below w.heap.size w w' ∧ w'.heap.size = w.heap.size + 1 := by
  have hmm := @run_makeMap Tryf.prog
  have m0 : MapIs (w.alloc (.map #[] 0)) w.heap.size #[] 0 := by
    show (w.heap.push _)[w.heap.size]? = _
    simp
  obtain ⟨w0, hw0⟩ : ∃ x, x = w.alloc (.map #[] 0) := ⟨_, rfl⟩
  have hm0 : ∀ t, (Instr.makeMap t none).run Tryf.prog w = .ok (.map (some w.heap.size)) w0 := fun t => by rw [hw0]; exact hmm t w
  rw [← hw0] at m0
  obtain ⟨w1, hw1⟩ : ∃ x, x = putMap w0 w.heap.size #[⟨.string kT, .iface 9 (.string a), 0⟩] 1 := ⟨_, rfl⟩
  have r0 : (Instr.mapUpdate 24 (.map (some w.heap.size)) (.string ⟨#[116, 107, 116, 121, 112, 101]⟩) (.iface 9 (.string a))).run Tryf.prog w0 = .ok () w1 := by rw [hw1]; exact add_run (k := kT) m0 rfl _
  have m1 := put_is m0.lt #[⟨.string kT, .iface 9 (.string a), 0⟩] 1
  have o1 := hide (put_only w0 w.heap.size #[⟨.string kT, .iface 9 (.string a), 0⟩] 1)
  rw [← hw1] at m1 o1
  obtain ⟨w2, hw2⟩ : ∃ x, x = putMap w1 w.heap.size #[⟨.string kT, .iface 9 (.string a), 0⟩, ⟨.string kV, .iface 9 (.string b), 1⟩] 2 := ⟨_, rfl⟩
  have r1 : (Instr.mapUpdate 24 (.map (some w.heap.size)) (.string ⟨#[116, 107, 118, 97, 108, 117, 101]⟩) (.iface 9 (.string b))).run Tryf.prog w1 = .ok () w2 := by rw [hw2]; exact add_run (k := kV) m1 rfl _
  have m2 := put_is m1.lt #[⟨.string kT, .iface 9 (.string a), 0⟩, ⟨.string kV, .iface 9 (.string b), 1⟩] 2
  have o2 := hide (put_only w1 w.heap.size #[⟨.string kT, .iface 9 (.string a), 0⟩, ⟨.string kV, .iface 9 (.string b), 1⟩] 2)
  rw [← hw2] at m2 o2
  obtain ⟨w3, hw3⟩ : ∃ x, x = putMap w2 w.heap.size (base3 a b c) 3 := ⟨_, rfl⟩
  have r2 : (Instr.mapUpdate 24 (.map (some w.heap.size)) (.string ⟨#[102, 105, 110, 103, 101, 114, 112, 114, 105, 110, 116]⟩) (.iface 9 (.string c))).run Tryf.prog w2 = .ok () w3 := by rw [hw3]; exact add_run (k := kF) m2 rfl _
  have m3 := hide (put_is m2.lt (base3 a b c) 3)
  have o3 := hide (put_only w2 w.heap.size (base3 a b c) 3)
  rw [← hw3] at m3 o3
  have b0 : Hid (Below w.heap.size w w0 ∧ w0.heap.size = w.heap.size + 1) := by
    rw [hw0]
    refine ⟨(Below.refl _ _).alloc (Nat.le_refl _) _, ?_⟩
    show (w.heap.push _).size = _
    simp
  clear m0 m1 m2 hw0 hw1 hw2 hw3 hmm
  go_enter Tryf.func6, Tryf.ntmps6
  go_wp2
  go_ret
  exact ⟨rfl, m3.out, ((b0.out.1.trans (o1.out.below (Nat.le_refl _))).trans (o2.out.below (Nat.le_refl _))).trans (o3.out.below (Nat.le_refl _)), by rw [o3.out.size, o2.out.size, o1.out.size, b0.out.2]⟩

theorem set7 {w : World} {b : Nat} {es : Array MapEntry} {c : Nat} (hm : MapIs w b es c) {k : ByteArray} (h : look es k = some none) (v : ByteArray) :
    Calls Tryf.prog 7 #[.map (some b), .string k, .string v] w fun e w' => e = .returned (.tuple #[]) ∧ MapIs w' b (es.push ⟨.string k, .iface 9 (.string v), c⟩) (c + 1) ∧ Only b w w' := by
  have hr := add_run hm h (.iface 9 (.string v))
  have hl := hide hm.lt
  clear hm h
  go_enter Tryf.func7, Tryf.ntmps7
  go_wp2
  go_end0
  exact ⟨rfl, put_is hl.out _ _, put_only _ _ _ _⟩

theorem set9 {w : World} {b : Nat} {es : Array MapEntry} {c : Nat} (hm : MapIs w b es c) {k : ByteArray} {i : Nat} {u : Value} (h : look es k = some (some (i, u))) (hk : (es[i]?).map (·.key) = some (.string k)) :
    Calls Tryf.prog 9 #[.map (some b), .string k, .bool true] w fun e w' => e = .returned (.tuple #[]) ∧ MapIs w' b (es.modify i fun e => { e with key := .string k, val := .iface 4 (.bool true) }) c ∧ Only b w w' := by
  have hr := turn_run hm h hk (.iface 4 (.bool true))
  have hl := hide hm.lt
  clear hm h hk
  go_enter Tryf.func9, Tryf.ntmps9
  go_wp2
  go_end0
  exact ⟨rfl, put_is hl.out _ _, put_only _ _ _ _⟩

theorem drop10 {w : World} {b : Nat} {es : Array MapEntry} {c : Nat} (hm : MapIs w b es c) {k : ByteArray} {i : Nat} {u : Value} (h : look es k = some (some (i, u))) :
    Calls Tryf.prog 10 #[.map (some b), .string k] w fun e w' => e = .returned (.tuple #[]) ∧ MapIs w' b (es.eraseIdxIfInBounds i) c ∧ Only b w w' := by
  have hr := drop_run hm h
  have hl := hide hm.lt
  clear hm h
  go_enter Tryf.func10, Tryf.ntmps10
  go_wp2
  go_end0
  exact ⟨rfl, put_is hl.out _ _, put_only _ _ _ _⟩

end Go.Proofs.Qxb6614660aFmt
