/-
  The walk of 'ParseATC' (11).
-/
import Derived.Test.Qxb6614660aFmtBase
namespace Go.Proofs.Qxb6614660aFmt
open Go.RowKit Go.Extern.Stop Go.Stop Go.Extern

def kT : ByteArray := ⟨#[116, 107, 116, 121, 112, 101]⟩
def kV : ByteArray := ⟨#[116, 107, 118, 97, 108, 117, 101]⟩
def kF : ByteArray := ⟨#[102, 105, 110, 103, 101, 114, 112, 114, 105, 110, 116]⟩
def kC : ByteArray := ⟨#[99, 97]⟩

theorem ix0 (w : World) : (Instr.index 36 (.agg #[.string ⟨#[116, 107, 116, 121, 112, 101]⟩, .string ⟨#[116, 107, 118, 97, 108, 117, 101]⟩, .string ⟨#[102, 105, 110, 103, 101, 114, 112, 114, 105, 110, 116]⟩]) (.int .i64 0)).run Tryf.prog w = .ok (.string ⟨#[116, 107, 116, 121, 112, 101]⟩) w := by kernel_rfl
theorem ix1 (w : World) : (Instr.index 36 (.agg #[.string ⟨#[116, 107, 116, 121, 112, 101]⟩, .string ⟨#[116, 107, 118, 97, 108, 117, 101]⟩, .string ⟨#[102, 105, 110, 103, 101, 114, 112, 114, 105, 110, 116]⟩]) (.int .i64 1)).run Tryf.prog w = .ok (.string ⟨#[116, 107, 118, 97, 108, 117, 101]⟩) w := by kernel_rfl
theorem ix2 (w : World) : (Instr.index 36 (.agg #[.string ⟨#[116, 107, 116, 121, 112, 101]⟩, .string ⟨#[116, 107, 118, 97, 108, 117, 101]⟩, .string ⟨#[102, 105, 110, 103, 101, 114, 112, 114, 105, 110, 116]⟩]) (.int .i64 2)).run Tryf.prog w = .ok (.string ⟨#[102, 105, 110, 103, 101, 114, 112, 114, 105, 110, 116]⟩) w := by kernel_rfl
theorem as9_9 (v : Value) (w : World) : (Instr.typeAssert (.iface 9 v) 20 9 true).run Tryf.prog w = .ok (.tuple #[v, .bool true]) w := by kernel_rfl
theorem as4_9 (v : Value) (w : World) : (Instr.typeAssert (.iface 4 v) 20 9 true).run Tryf.prog w = .ok (.tuple #[.string ByteArray.empty, .bool false]) w := by kernel_rfl
theorem asn_9 (w : World) : (Instr.typeAssert .nilIface 20 9 true).run Tryf.prog w = .ok (.tuple #[.string ByteArray.empty, .bool false]) w := by kernel_rfl
theorem asn_4 (w : World) : (Instr.typeAssert .nilIface 20 4 true).run Tryf.prog w = .ok (.tuple #[.bool false, .bool false]) w := by kernel_rfl

/-- Block g holds the cells l, all of them free to be written. -/
def Blk (w : World) (g : Nat) (e : TypeId) (l : List Value) : Prop := w.heap[g]? = some (.cells l.toArray e (0, 0))

theorem Blk.cell {w : World} {g : Nat} {e : TypeId} {l : List Value} (h : Blk w g e l) (i : Nat) : w.cell? ⟨g, i, none⟩ = l[i]? := by
  rw [cell_of_row w g i _ _ _ h]; simp
theorem Blk.free {w : World} {g : Nat} {e : TypeId} {l : List Value} (h : Blk w g e l) (i : Nat) : w.frozen? ⟨g, i, none⟩ = false := by
  unfold Blk at h
  simp [World.frozen?, h]
theorem Blk.lt {w : World} {g : Nat} {e : TypeId} {l : List Value} (h : Blk w g e l) : g < w.heap.size := (Array.getElem?_eq_some_iff.1 h).1
theorem Blk.below {B : Nat} {w w' : World} {g : Nat} {e : TypeId} {l : List Value} (h : Blk w g e l) (hb : Below B w w') (hg : g < B) : Blk w' g e l := by
  unfold Blk at h ⊢
  rw [hb.block g hg, h]
theorem Blk.set {w : World} {g : Nat} {e : TypeId} {l : List Value} (h : Blk w g e l) (i : Nat) (v : Value) : Blk (w.setCell ⟨g, i, none⟩ v) g e (l.set i v) := by
  unfold Blk at h ⊢
  simp [World.setCell, Array.getElem?_modify, h]
theorem Blk.setOther {w : World} {g : Nat} {e : TypeId} {l : List Value} (h : Blk w g e l) (a : Addr) (v : Value) (hne : g ≠ a.block) : Blk (w.setCell a v) g e l := by
  unfold Blk at h ⊢
  rw [Below.heap_setCell _ _ _ _ hne, h]
theorem Blk.alloc {w : World} {g : Nat} {e : TypeId} {l : List Value} (h : Blk w g e l) (o : Obj) : Blk (w.alloc o) g e l := h.below ((Below.refl _ _).alloc (Nat.le_refl _) o) h.lt
theorem Blk.new (w : World) (l : List Value) (e : TypeId) : Blk (w.alloc (.cells l.toArray e)) w.heap.size e l := by
  unfold Blk
  show (w.heap.push _)[w.heap.size]? = _
  simp

/-- Behind k rounds: the first k of the three strings are read. -/
structure Round (w : World) (k : Nat) (s0 s1 s2 : ByteArray) (wr : World) : Prop where
  out : Blk wr w.heap.size 31 [.string ByteArray.empty, .string ByteArray.empty, .bool false]
  vals : Blk wr (w.heap.size + 1) 36 [.string (if 0 < k then s0 else ByteArray.empty), .string (if 1 < k then s1 else ByteArray.empty), .string (if 2 < k then s2 else ByteArray.empty)]
  bel : Below w.heap.size w wr
  size : wr.heap.size = w.heap.size + 2

theorem Round.start (w : World) (s0 s1 s2 : ByteArray) : Round w 0 s0 s1 s2 ((w.alloc (.cells #[.string ByteArray.empty, .string ByteArray.empty, .bool false] 31)).alloc (.cells #[.string ByteArray.empty, .string ByteArray.empty, .string ByteArray.empty] 36)) := by
  have e : (w.alloc (.cells #[.string ByteArray.empty, .string ByteArray.empty, .bool false] 31)).heap.size = w.heap.size + 1 := by
    show (w.heap.push _).size = _
    simp
  refine ⟨(Blk.new w [.string ByteArray.empty, .string ByteArray.empty, .bool false] 31).alloc _, ?_, ((Below.refl _ _).alloc (Nat.le_refl _) _).alloc (by rw [e]; omega) _, ?_⟩
  · have h := Blk.new (w.alloc (.cells #[.string ByteArray.empty, .string ByteArray.empty, .bool false] 31)) [.string ByteArray.empty, .string ByteArray.empty, .string ByteArray.empty] 36
    rw [e] at h
    exact h
  · show ((w.heap.push _).push _).size = _
    simp
theorem Round.next {w wr : World} {k : Nat} {s0 s1 s2 x : ByteArray} (h : Round w k s0 s1 s2 wr) (hk : k < 3) (hx : x = [s0, s1, s2].getD k x) :
    Round w (k + 1) s0 s1 s2 (wr.setCell ⟨w.heap.size + 1, k, none⟩ (.string x)) := by
  refine ⟨h.out.setOther _ _ (by simp), ?_, h.bel.setCell (by simp) _, by simp [World.setCell, h.size]⟩
  have hb := h.vals.set k (.string x)
  obtain rfl | rfl | rfl : k = 0 ∨ k = 1 ∨ k = 2 := by omega
  · simp at hx; subst hx; simpa using hb
  · simp at hx; subst hx; simpa using hb
  · simp at hx; subst hx; simpa using hb

set_option maxHeartbeats 1000000 in
theorem parse_good {w : World} {b : Nat} {es : Array MapEntry} {c i0 i1 i2 : Nat} {s0 s1 s2 : ByteArray} (hm : MapIs w b es c)
    (l0 : look es kT = some (some (i0, .iface 9 (.string s0)))) (l1 : look es kV = some (some (i1, .iface 9 (.string s1)))) (l2 : look es kF = some (some (i2, .iface 9 (.string s2)))) (lC : look es kC = some none) :
    Calls Tryf.prog 11 #[.map (some b)] w fun e w' => e = .returned (.tuple #[.string s0, .agg #[.string s1, .string s2, .bool false], .nilIface]) ∧ Below w.heap.size w w' := by
  have HM := hide hm
  have L0 := hide l0
  have L1 := hide l1
  have L2 := hide l2
  have LC := hide lC
  clear hm l0 l1 l2 lC
  go_enter Tryf.func11, Tryf.ntmps11
  go_wp2
  go_loopw [14] (fun i wr => ∃ k : Nat, k ≤ 3 ∧ i = .int .i64 (k : Int) ∧ Round w k s0 s1 s2 wr) (fun i _ => 3 - (intOf i).toNat)
  case atStart => exact ⟨0, Nat.zero_le _, rfl, Round.start w s0 s1 s2⟩
  case round =>
    obtain ⟨k, hk, rfl, hr⟩ := hrel
    have HR := hide hr
    clear hr
    have hsz := HR.out.size
    have hmr := HM.out.below HR.out.bel HM.out.lt
    have as9 := as9_9
    obtain rfl | rfl | rfl | rfl : k = 0 ∨ k = 1 ∨ k = 2 ∨ k = 3 := by omega
    · have hl : (Instr.lookup 24 (.map (some b)) (.string ⟨#[116, 107, 116, 121, 112, 101]⟩) false).run Tryf.prog wr = .ok (.iface 9 (.string s0)) wr := look_run hmr L0.out
      have hx := ix0
      have hc := HR.out.vals.cell 0
      have hf := HR.out.vals.free 0
      clear hmr
      simp at hc
      go_wp2
      exact ⟨⟨1, by omega, rfl, HR.out.next (by omega) rfl⟩, by decide⟩
    · have hl : (Instr.lookup 24 (.map (some b)) (.string ⟨#[116, 107, 118, 97, 108, 117, 101]⟩) false).run Tryf.prog wr = .ok (.iface 9 (.string s1)) wr := look_run hmr L1.out
      have hx := ix1
      have hc := HR.out.vals.cell 1
      have hf := HR.out.vals.free 1
      clear hmr
      simp at hc
      go_wp2
      exact ⟨⟨2, by omega, rfl, HR.out.next (by omega) rfl⟩, by decide⟩
    · have hl : (Instr.lookup 24 (.map (some b)) (.string ⟨#[102, 105, 110, 103, 101, 114, 112, 114, 105, 110, 116]⟩) false).run Tryf.prog wr = .ok (.iface 9 (.string s2)) wr := look_run hmr L2.out
      have hx := ix2
      have hc := HR.out.vals.cell 2
      have hf := HR.out.vals.free 2
      clear hmr
      simp at hc
      go_wp2
      exact ⟨⟨3, by omega, rfl, HR.out.next (by omega) rfl⟩, by decide⟩
    · have hl : (Instr.lookup 24 (.map (some b)) (.string ⟨#[99, 97]⟩) true).run Tryf.prog wr = .ok (.tuple #[.nilIface, .bool false]) wr := look_none2 hmr LC.out
      have as4 := asn_4
      have h0 := HR.out.vals.cell 0
      have h1 := HR.out.vals.cell 1
      have h2 := HR.out.vals.cell 2
      have g0 := HR.out.out.cell 0
      have g1 := HR.out.out.cell 1
      have g2 := HR.out.out.cell 2
      have f0 := HR.out.out.free 0
      have f1 := HR.out.out.free 1
      have f2 := HR.out.out.free 2
      simp at h0 h1 h2 g0 g1 g2
      clear hmr
      go_wp2
      go_region
      go_wp2
      exact bodyPost_ret (v := .tuple #[.string s0, .agg #[.string s1, .string s2, .bool false], .nilIface]) (by simp [results, Tryf.results11, go_sem, g0, g1, g2]) rfl ⟨rfl, (((HR.out.bel.setCell (Nat.le_refl _) _).setCell (Nat.le_refl _) _).setCell (Nat.le_refl _) _).drew⟩

/-- The member is not there, or is a bool. -/
def Bad (es : Array MapEntry) (k : ByteArray) : Prop := look es k = some none ∨ ∃ i, look es k = some (some (i, .iface 4 (.bool true)))

theorem bad_run {w : World} {b : Nat} {es : Array MapEntry} {c : Nat} (hm : MapIs w b es c) {k : ByteArray} (h : Bad es k) :
    ∃ v, (Instr.lookup 24 (.map (some b)) (.string k) false).run Tryf.prog w = .ok v w ∧ ∀ w', (Instr.typeAssert v 20 9 true).run Tryf.prog w' = .ok (.tuple #[.string ByteArray.empty, .bool false]) w' := by
  rcases h with h | ⟨i, h⟩
  · exact ⟨_, look_none hm h, asn_9⟩
  · exact ⟨_, look_run hm h, as4_9 _⟩

theorem Round.again {w wr : World} {k : Nat} {s0 s1 s2 : ByteArray} (h : Round w k s0 s1 s2 wr) (v : Value) : Below w.heap.size w (wr.setCell ⟨w.heap.size + 1, k, none⟩ v) := h.bel.setCell (by simp) _

/-- Behind the new slice of one string and the new error. -/
theorem Round.told {w wr w1 : World} {k : Nat} {s0 s1 s2 : ByteArray} (h : Round w k s0 s1 s2 wr) {v : Value} {o : Obj} (hb : Below (w.heap.size + 3) ((wr.setCell ⟨w.heap.size + 1, k, none⟩ v).alloc o) w1) :
    Below w.heap.size w w1 ∧ Blk w1 w.heap.size 31 [.string ByteArray.empty, .string ByteArray.empty, .bool false] := by
  have h1 := h.again v
  have e : (wr.setCell ⟨w.heap.size + 1, k, none⟩ v).heap.size = w.heap.size + 2 := by simp [World.setCell, h.size]
  exact ⟨(h1.alloc (by rw [e]; omega) o).trans (hb.mono (by omega)), ((h.out.setOther ⟨w.heap.size + 1, k, none⟩ v (by simp)).alloc o).below hb (by omega)⟩
theorem Round.slice {w wr : World} {k : Nat} {s0 s1 s2 : ByteArray} (h : Round w k s0 s1 s2 wr) (v u : Value) : ((wr.setCell ⟨w.heap.size + 1, k, none⟩ v).alloc (.cells #[u] 20)).cell? ⟨w.heap.size + 2, 0, none⟩ = some u ∧ ((wr.setCell ⟨w.heap.size + 1, k, none⟩ v).alloc (.cells #[u] 20)).heap.size = w.heap.size + 3 := by
  have e : (wr.setCell ⟨w.heap.size + 1, k, none⟩ v).heap.size = w.heap.size + 2 := by simp [World.setCell, h.size]
  have hb := (Blk.new (wr.setCell ⟨w.heap.size + 1, k, none⟩ v) [u] 20).cell 0
  rw [e] at hb
  refine ⟨hb, ?_⟩
  show ((wr.setCell ⟨w.heap.size + 1, k, none⟩ v).heap.push _).size = _
  rw [Array.size_push, e]

set_option maxHeartbeats 1000000 in
theorem parse_bad0 (F : Interp) {w : World} {b : Nat} {es : Array MapEntry} {c : Nat} (hF : F.answers w.tape) (hm : MapIs w b es c)  (hb : Bad es kT) :
    Calls Tryf.prog 11 #[.map (some b)] w fun e w' => (∃ a : Addr, e = .returned (.tuple #[.string ByteArray.empty, .agg #[.string ByteArray.empty, .string ByteArray.empty, .bool false], .iface 44 (.pointer (some a))])) ∧ Below w.heap.size w w' := by
  have HM := hide hm
  have HF := hide hF
  have HB := hide hb
  clear hm hF hb
  go_enter Tryf.func11, Tryf.ntmps11
  go_wp2
  go_loopw [14] (fun i wr => ∃ k : Nat, k ≤ 0 ∧ i = .int .i64 (k : Int) ∧ Round w k ByteArray.empty ByteArray.empty ByteArray.empty wr) (fun i _ => 3 - (intOf i).toNat)
  case atStart => exact ⟨0, Nat.zero_le _, rfl, Round.start w ByteArray.empty ByteArray.empty ByteArray.empty⟩
  case round =>
    obtain ⟨k, hk, rfl, hr⟩ := hrel
    have HR := hide hr
    clear hr
    have hsz := HR.out.size
    have hmr := HM.out.below HR.out.bel HM.out.lt
    obtain rfl : k = 0 := by omega
    · obtain ⟨v, hl0, as9⟩ := bad_run hmr HB.out
      have hl : (Instr.lookup 24 (.map (some b)) (.string ⟨#[116, 107, 116, 121, 112, 101]⟩) false).run Tryf.prog wr = .ok v wr := hl0
      have hx := ix0
      have hc := HR.out.vals.cell 0
      have hf := HR.out.vals.free 0
      clear hmr hl0
      simp at hc
      go_wp2_with fail
      have hs := HR.out.slice (.string ByteArray.empty) (.iface 9 (.string ⟨#[116, 107, 116, 121, 112, 101]⟩))
      refine (errorf_any F ⟨#[116, 107, 116, 121, 112, 101]⟩ (w.heap.size + 2) _ ?_ hs.1).mono ?_
      · show F.answers wr.tape
        rw [HR.out.bel.tape]
        exact HF.out
      rintro e w1 ⟨rfl, hb1⟩
      rw [hs.2] at hb1
      obtain ⟨hbw, ho⟩ := HR.out.told hb1
      have g0 := ho.cell 0
      have g1 := ho.cell 1
      have g2 := ho.cell 2
      have f0 := ho.free 0
      have f1 := ho.free 1
      have f2 := ho.free 2
      simp at g0 g1 g2
      have HBW := hide hbw
      clear hs hb1 ho hbw hc hf hl as9 hx
      go_wp2
      exact bodyPost_ret (v := .tuple #[.string ByteArray.empty, .agg #[.string ByteArray.empty, .string ByteArray.empty, .bool false], .iface 44 (.pointer (some ⟨w.heap.size + 2 + 1, 0, none⟩))]) (by simp [results, Tryf.results11, go_sem, g0, g1, g2]; rfl) rfl ⟨⟨_, rfl⟩, ((HBW.out.setCell (Nat.le_refl _) _).setCell (Nat.le_refl _) _).setCell (Nat.le_refl _) _⟩

set_option maxHeartbeats 1000000 in
theorem parse_bad1 (F : Interp) {w : World} {b : Nat} {es : Array MapEntry} {c : Nat} {i0 : Nat} {s0 : ByteArray} (hF : F.answers w.tape) (hm : MapIs w b es c) (l0 : look es kT = some (some (i0, .iface 9 (.string s0)))) (hb : Bad es kV) :
    Calls Tryf.prog 11 #[.map (some b)] w fun e w' => (∃ a : Addr, e = .returned (.tuple #[.string ByteArray.empty, .agg #[.string ByteArray.empty, .string ByteArray.empty, .bool false], .iface 44 (.pointer (some a))])) ∧ Below w.heap.size w w' := by
  have HM := hide hm
  have HF := hide hF
  have L0 := hide l0
  have HB := hide hb
  clear hm hF hb l0
  go_enter Tryf.func11, Tryf.ntmps11
  go_wp2
  go_loopw [14] (fun i wr => ∃ k : Nat, k ≤ 1 ∧ i = .int .i64 (k : Int) ∧ Round w k s0 ByteArray.empty ByteArray.empty wr) (fun i _ => 3 - (intOf i).toNat)
  case atStart => exact ⟨0, Nat.zero_le _, rfl, Round.start w s0 ByteArray.empty ByteArray.empty⟩
  case round =>
    obtain ⟨k, hk, rfl, hr⟩ := hrel
    have HR := hide hr
    clear hr
    have hsz := HR.out.size
    have hmr := HM.out.below HR.out.bel HM.out.lt
    obtain rfl | rfl : k = 0 ∨ k = 1 := by omega
    · have hl : (Instr.lookup 24 (.map (some b)) (.string ⟨#[116, 107, 116, 121, 112, 101]⟩) false).run Tryf.prog wr = .ok (.iface 9 (.string s0)) wr := look_run hmr L0.out
      have hx := ix0
      have as9 := as9_9
      have hc := HR.out.vals.cell 0
      have hf := HR.out.vals.free 0
      clear hmr
      simp at hc
      go_wp2
      exact ⟨⟨1, by omega, rfl, HR.out.next (by omega) rfl⟩, by decide⟩
    · obtain ⟨v, hl0, as9⟩ := bad_run hmr HB.out
      have hl : (Instr.lookup 24 (.map (some b)) (.string ⟨#[116, 107, 118, 97, 108, 117, 101]⟩) false).run Tryf.prog wr = .ok v wr := hl0
      have hx := ix1
      have hc := HR.out.vals.cell 1
      have hf := HR.out.vals.free 1
      clear hmr hl0
      simp at hc
      go_wp2_with fail
      have hs := HR.out.slice (.string ByteArray.empty) (.iface 9 (.string ⟨#[116, 107, 118, 97, 108, 117, 101]⟩))
      refine (errorf_any F ⟨#[116, 107, 118, 97, 108, 117, 101]⟩ (w.heap.size + 2) _ ?_ hs.1).mono ?_
      · show F.answers wr.tape
        rw [HR.out.bel.tape]
        exact HF.out
      rintro e w1 ⟨rfl, hb1⟩
      rw [hs.2] at hb1
      obtain ⟨hbw, ho⟩ := HR.out.told hb1
      have g0 := ho.cell 0
      have g1 := ho.cell 1
      have g2 := ho.cell 2
      have f0 := ho.free 0
      have f1 := ho.free 1
      have f2 := ho.free 2
      simp at g0 g1 g2
      have HBW := hide hbw
      clear hs hb1 ho hbw hc hf hl as9 hx
      go_wp2
      exact bodyPost_ret (v := .tuple #[.string ByteArray.empty, .agg #[.string ByteArray.empty, .string ByteArray.empty, .bool false], .iface 44 (.pointer (some ⟨w.heap.size + 2 + 1, 0, none⟩))]) (by simp [results, Tryf.results11, go_sem, g0, g1, g2]; rfl) rfl ⟨⟨_, rfl⟩, ((HBW.out.setCell (Nat.le_refl _) _).setCell (Nat.le_refl _) _).setCell (Nat.le_refl _) _⟩

set_option maxHeartbeats 1000000 in
theorem parse_bad2 (F : Interp) {w : World} {b : Nat} {es : Array MapEntry} {c : Nat} {i0 i1 : Nat} {s0 s1 : ByteArray} (hF : F.answers w.tape) (hm : MapIs w b es c) (l0 : look es kT = some (some (i0, .iface 9 (.string s0)))) (l1 : look es kV = some (some (i1, .iface 9 (.string s1)))) (hb : Bad es kF) :
    Calls Tryf.prog 11 #[.map (some b)] w fun e w' => (∃ a : Addr, e = .returned (.tuple #[.string ByteArray.empty, .agg #[.string ByteArray.empty, .string ByteArray.empty, .bool false], .iface 44 (.pointer (some a))])) ∧ Below w.heap.size w w' := by
  have HM := hide hm
  have HF := hide hF
  have L0 := hide l0
  have L1 := hide l1
  have HB := hide hb
  clear hm hF hb l0 l1
  go_enter Tryf.func11, Tryf.ntmps11
  go_wp2
  go_loopw [14] (fun i wr => ∃ k : Nat, k ≤ 2 ∧ i = .int .i64 (k : Int) ∧ Round w k s0 s1 ByteArray.empty wr) (fun i _ => 3 - (intOf i).toNat)
  case atStart => exact ⟨0, Nat.zero_le _, rfl, Round.start w s0 s1 ByteArray.empty⟩
  case round =>
    obtain ⟨k, hk, rfl, hr⟩ := hrel
    have HR := hide hr
    clear hr
    have hsz := HR.out.size
    have hmr := HM.out.below HR.out.bel HM.out.lt
    obtain rfl | rfl | rfl : k = 0 ∨ k = 1 ∨ k = 2 := by omega
    · have hl : (Instr.lookup 24 (.map (some b)) (.string ⟨#[116, 107, 116, 121, 112, 101]⟩) false).run Tryf.prog wr = .ok (.iface 9 (.string s0)) wr := look_run hmr L0.out
      have hx := ix0
      have as9 := as9_9
      have hc := HR.out.vals.cell 0
      have hf := HR.out.vals.free 0
      clear hmr
      simp at hc
      go_wp2
      exact ⟨⟨1, by omega, rfl, HR.out.next (by omega) rfl⟩, by decide⟩
    · have hl : (Instr.lookup 24 (.map (some b)) (.string ⟨#[116, 107, 118, 97, 108, 117, 101]⟩) false).run Tryf.prog wr = .ok (.iface 9 (.string s1)) wr := look_run hmr L1.out
      have hx := ix1
      have as9 := as9_9
      have hc := HR.out.vals.cell 1
      have hf := HR.out.vals.free 1
      clear hmr
      simp at hc
      go_wp2
      exact ⟨⟨2, by omega, rfl, HR.out.next (by omega) rfl⟩, by decide⟩
    · obtain ⟨v, hl0, as9⟩ := bad_run hmr HB.out
      have hl : (Instr.lookup 24 (.map (some b)) (.string ⟨#[102, 105, 110, 103, 101, 114, 112, 114, 105, 110, 116]⟩) false).run Tryf.prog wr = .ok v wr := hl0
      have hx := ix2
      have hc := HR.out.vals.cell 2
      have hf := HR.out.vals.free 2
      clear hmr hl0
      simp at hc
      go_wp2_with fail
      have hs := HR.out.slice (.string ByteArray.empty) (.iface 9 (.string ⟨#[102, 105, 110, 103, 101, 114, 112, 114, 105, 110, 116]⟩))
      refine (errorf_any F ⟨#[102, 105, 110, 103, 101, 114, 112, 114, 105, 110, 116]⟩ (w.heap.size + 2) _ ?_ hs.1).mono ?_
      · show F.answers wr.tape
        rw [HR.out.bel.tape]
        exact HF.out
      rintro e w1 ⟨rfl, hb1⟩
      rw [hs.2] at hb1
      obtain ⟨hbw, ho⟩ := HR.out.told hb1
      have g0 := ho.cell 0
      have g1 := ho.cell 1
      have g2 := ho.cell 2
      have f0 := ho.free 0
      have f1 := ho.free 1
      have f2 := ho.free 2
      simp at g0 g1 g2
      have HBW := hide hbw
      clear hs hb1 ho hbw hc hf hl as9 hx
      go_wp2
      exact bodyPost_ret (v := .tuple #[.string ByteArray.empty, .agg #[.string ByteArray.empty, .string ByteArray.empty, .bool false], .iface 44 (.pointer (some ⟨w.heap.size + 2 + 1, 0, none⟩))]) (by simp [results, Tryf.results11, go_sem, g0, g1, g2]; rfl) rfl ⟨⟨_, rfl⟩, ((HBW.out.setCell (Nat.le_refl _) _).setCell (Nat.le_refl _) _).setCell (Nat.le_refl _) _⟩

end Go.Proofs.Qxb6614660aFmt
