/-
  The walks of 'zzBytes_..' (9) and 'permutationLayoutB1' (10); the plain law: n marks on n places mark every place.
-/
import Derived.Test.Qxb6615810aBase
namespace Go.Proofs.Qxb6615810a
open Go.RowKit

/-- A layout that came in: S rows; row s is the slice (A s, L s, C s) of the numbers X s. -/
def Rws (w : World) (a : Option Addr) (S : Nat) (A : Nat → Option Addr) (L C : Nat → Nat) (X : Nat → List Int) : Prop :=
  0 < S → ∃ b off, a = some ⟨b, off, none⟩ ∧ ∀ s, s < S → w.cell? ⟨b, off + s, none⟩ = some (.slice (A s) (L s) (C s)) ∧ L s ≤ 9223372036854775807 ∧ Ats w (A s) (L s) (X s)

theorem Rws.below {w w' : World} {a : Option Addr} {S : Nat} {A : Nat → Option Addr} {L C : Nat → Nat} {X : Nat → List Int} (h : Rws w a S A L C X) (hb : Below w.heap.size w w') : Rws w' a S A L C X := by
  intro hp
  obtain ⟨b, off, e, hs⟩ := h hp
  refine ⟨b, off, e, fun s hs' => ?_⟩
  obtain ⟨h1, h2, h3⟩ := hs s hs'
  refine ⟨?_, h2, h3.below hb (Nat.le_refl _)⟩
  rw [hb.cell (p := ⟨b, off + s, none⟩) (World.block_lt_of_cell? w _ h1)]
  exact h1
theorem Rws.belowB {B : Nat} {w w' : World} {a : Option Addr} {S : Nat} {A : Nat → Option Addr} {L C : Nat → Nat} {X : Nat → List Int} (h : Rws w a S A L C X) (hb : Below B w w') (hB : w.heap.size ≤ B) : Rws w' a S A L C X := h.below (hb.mono hB)

/-- How many numbers the first s rows hold. -/
def pre (L : Nat → Nat) : Nat → Nat
  | 0 => 0
  | s + 1 => pre L s + L s
theorem pre_le (L : Nat → Nat) : ∀ (s S : Nat), s ≤ S → pre L s ≤ pre L S
  | s, 0, h => by
    obtain rfl : s = 0 := by omega
    exact Nat.le_refl _
  | s, S + 1, h => by
    by_cases e : s = S + 1
    · rw [e]; exact Nat.le_refl _
    · have := pre_le L s S (by omega)
      show pre L s ≤ pre L S + L S
      omega
theorem pre_row (L : Nat → Nat) (s S : Nat) (h : s < S) : pre L s + L s ≤ pre L S := pre_le L (s + 1) S h

set_option maxHeartbeats 400000 in
theorem bytes9_any (a : Option Addr) (S cap : Nat) (A : Nat → Option Addr) (L C : Nat → Nat) (X : Nat → List Int) (w : World) (hm : S ≤ 9223372036854775807) (h : Rws w a S A L C X) :
    Calls Try.prog 9 #[.slice a S cap] w fun e w' => RetB e ∧ w' = w := by
  by_cases h1 : 1048576 < S
  · clear h
    go_enter Try.func9, Try.ntmps9
    go_wp2
    go_ret
    exact ⟨⟨_, rfl⟩, rfl⟩
  go_enter Try.func9, Try.ntmps9
  go_wp2
  go_loop [3, 4] (fun used i => ∃ (k : Nat) (u : Int), k ≤ S ∧ i = .int .i64 k ∧ used = .int .i64 u ∧ 0 ≤ u ∧ u ≤ 1048576) (fun _ i => S - (intOf i).toNat)
  case atStart => exact ⟨0, _, Nat.zero_le _, rfl, rfl, by omega, by omega⟩
  case round =>
    obtain ⟨k, u, hk, rfl, rfl, hu0, hu1⟩ := hrel
    by_cases hlt : k < S
    · obtain ⟨b, off, rfl, hc⟩ := h (by omega)
      obtain ⟨hcell, hl, _⟩ := hc k hlt
      clear hc h
      generalize L k = ln at hcell hl
      generalize C k = cn at hcell
      generalize A k = an at hcell
      by_cases g1 : 1048576 < (ln : Int)
      · go_wp2
        go_ret
        exact ⟨⟨_, rfl⟩, rfl⟩
      · by_cases g2 : 1048576 < u + (ln : Int)
        · go_wp2
          go_ret
          exact ⟨⟨_, rfl⟩, rfl⟩
        · go_wp2
          go_round
          case rel => exact ⟨k + 1, _, by omega, by go_num, rfl, by omega, by omega⟩
          case measure => simp [intOf]; omega
    · clear h
      go_wp2
      go_ret
      exact ⟨⟨_, rfl⟩, rfl⟩

/-- How many of the marks stand. -/
def cnt : List Bool → Nat
  | [] => 0
  | b :: l => (if b = true then 1 else 0) + cnt l
theorem cnt_le : ∀ l, cnt l ≤ l.length
  | [] => Nat.le_refl _
  | b :: l => by
    have := cnt_le l
    simp only [cnt, List.length_cons]
    split <;> omega
theorem cnt_all : ∀ l, cnt l = l.length → ∀ b ∈ l, b = true
  | [], _, b, h => by simp at h
  | x :: l, he, b, h => by
    have hl := cnt_le l
    simp only [cnt, List.length_cons] at he
    cases x
    · simp at he; omega
    · rcases List.mem_cons.1 h with h | h
      · exact h
      · exact cnt_all l (by simp at he; omega) b h
theorem cnt_set : ∀ (l : List Bool) (p : Nat), l[p]? = some false → cnt (l.set p true) = cnt l + 1
  | [], p, h => by simp at h
  | x :: l, 0, h => by
    simp at h
    subst h
    simp [cnt]
    omega
  | x :: l, p + 1, h => by
    have := cnt_set l p (by simpa using h)
    simp only [List.set_cons_succ, cnt, this]
    omega
theorem cnt_zero (n : Nat) : cnt (List.replicate n false) = 0 := by
  induction n with
  | zero => rfl
  | succ n ih => simp [List.replicate_succ, cnt, ih]

def bools (l : List Bool) : List Value := l.map Value.bool
theorem bools_replicate (n : Nat) : List.replicate n (Value.bool false) = bools (List.replicate n false) := by simp [bools]
theorem bools_set (l : List Bool) (i : Nat) (v : Bool) : (bools l).set i (.bool v) = bools (l.set i v) := by simp [bools, List.map_set]
theorem bools_get (l : List Bool) (i : Nat) (b : Bool) (h : l[i]? = some b) : (bools l)[i]? = some (.bool b) := by simp [bools, h]

/-- Number i of row s is one of the n places. -/
def InRange (n : Nat) (X : Nat → List Int) (s i : Nat) : Prop := 0 ≤ (X s).getD i 0 ∧ (X s).getD i 0 < (n : Int)
/-- Every mark has its number. -/
def Marked (S : Nat) (L : Nat → Nat) (X : Nat → List Int) (l : List Bool) : Prop := ∀ p : Nat, l[p]? = some true → ∃ s i, s < S ∧ i < L s ∧ (X s).getD i 0 = (p : Int)
/-- What a layout of all n places is. -/
structure Lays (S n : Nat) (L : Nat → Nat) (X : Nat → List Int) : Prop where
  range : ∀ s i, s < S → i < L s → InRange n X s i
  onto : ∀ p, p < n → ∃ s i, s < S ∧ i < L s ∧ (X s).getD i 0 = (p : Int)

theorem Marked.set {S : Nat} {L : Nat → Nat} {X : Nat → List Int} {l : List Bool} (h : Marked S L X l) {s i m : Nat} (hs : s < S) (hi : i < L s) (hm : (X s).getD i 0 = (m : Int)) : Marked S L X (l.set m true) := by
  intro p hp
  by_cases e : m = p
  · subst e; exact ⟨s, i, hs, hi, hm⟩
  · rw [List.getElem?_set_ne e] at hp
    exact h p hp
theorem lays_of {S : Nat} {L : Nat → Nat} {X : Nat → List Int} {l : List Bool} (hl : l.length = pre L S) (hc : cnt l = pre L S) (hm : Marked S L X l) (hr : ∀ s i, s < S → i < L s → InRange (pre L S) X s i) : Lays S (pre L S) L X := by
  refine ⟨hr, fun p hp => hm p ?_⟩
  have hlt : p < l.length := by omega
  rw [List.getElem?_eq_getElem hlt, cnt_all l (by omega) _ (List.getElem_mem hlt)]

theorem Try.info4 : (Try.prog.info? 4).map (fun i => (i.zero, i.size, i.bytes)) = some (some (.bool false), 1, 1) := by kernel_rfl

/-- It returns a bool, and where that is true P holds. -/
def RetP (P : Prop) (e : Ending) : Prop := ∃ b : Bool, e = .returned (.bool b) ∧ (b = true → P)

set_option maxHeartbeats 1000000 in
theorem perm_any (a : Option Addr) (S cap n : Nat) (A : Nat → Option Addr) (L C : Nat → Nat) (X : Nat → List Int) (w : World) (hm : S ≤ 4096) (hn : n = pre L S) (hn2 : n ≤ 131072) (h : Rws w a S A L C X) :
    Calls Try.prog 10 #[.slice a S cap, .int .i64 (n : Int)] w fun e w' => RetP (Lays S n L X) e ∧ Below w.heap.size w w' := by
  have HN := hide hn
  have HR := hide h
  obtain ⟨i0, hi0, hz0, hz1, hz2⟩ := info_parts Try.info4
  clear hn h
  go_enter Try.func10, Try.ntmps10
  go_wp2_with (at_make; refine wpList_make_blk _ rfl _ _ 63 rfl 4 i0 (.bool false) Try.underlying63 hi0 hz0 hz1 rfl _ _ _ _ n rfl rfl rfl rfl (by rw [hz2]; omega) (by omega) ?_; intro w1 hk1 hb1 hs1)
  rw [bools_replicate] at hk1
  have K1 := hide hk1
  have B1 := hide hb1
  clear hk1 hb1 hs1 hi0 hz0 hz1 hz2
  go_wp2
  go_loopw [14] (fun iv wr => ∃ (k : Nat) (l : List Bool), k ≤ S ∧ iv = .int .i64 (k : Int) ∧ l.length = n ∧ cnt l = pre L k ∧ Marked S L X l ∧ (∀ s i, s < k → i < L s → InRange n X s i) ∧ Blk wr w.heap.size 4 (bools l) ∧ Below w.heap.size w wr) (fun iv _ => S - (intOf iv).toNat)
  case atStart => exact ⟨0, List.replicate n false, Nat.zero_le _, rfl, by simp, cnt_zero n, fun p hp => by
                    rw [List.getElem?_replicate] at hp
                    split at hp <;> simp at hp, fun s i h => by omega, K1.out, B1.out⟩
  case round =>
    obtain ⟨k, l, hk, rfl, hl, hc, hmk, hrg, hblk, hbel⟩ := hrel
    have HL := hide hl
    have HC := hide hc
    have HM := hide hmk
    have HG := hide hrg
    have HB := hide hblk
    have HO := hide hbel
    clear hl hc hmk hrg hblk hbel
    by_cases hlt : k < S
    · obtain ⟨b, off, rfl, hcs⟩ := (HR.out.below HO.out) (by omega)
      obtain ⟨hcell, h2, _⟩ := hcs k hlt
      obtain ⟨b', off', e', hcs'⟩ := HR.out (by omega)
      have HA := hide (hcs' k hlt).2.2
      clear hcs hcs' e' b' off'
      have hpr := pre_row L k S hlt
      have hLk : L k ≤ 131072 := by rw [← HN.out] at hpr; omega
      clear hpr
      generalize hA : A k = ak at hcell HA
      clear hA
      go_wp2
      go_loopw [20] (fun iv wr => ∃ (j : Nat) (l : List Bool), j ≤ L k ∧ iv = .int .i64 (j : Int) ∧ l.length = n ∧ cnt l = pre L k + j ∧ Marked S L X l ∧ (∀ i, i < j → InRange n X k i) ∧ Blk wr w.heap.size 4 (bools l) ∧ Below w.heap.size w wr) (fun iv _ => L k - (intOf iv).toNat)
      case atStart => exact ⟨0, l, Nat.zero_le _, rfl, HL.out, HC.out, HM.out, fun i h => by omega, HB.out, HO.out⟩
      case round =>
        clear hcell
        have HG0 := HG
        clear HL HC HM HB HO HG
        obtain ⟨j, l2, hj, rfl, hl, hc, hmk, hrg, hblk, hbel⟩ := hrel
        have HL := hide hl
        have HC := hide hc
        have HM := hide hmk
        have HG := hide hrg
        have HB := hide hblk
        have HO := hide hbel
        clear hl hc hmk hrg hblk hbel
        by_cases hjl : j < L k
        · obtain ⟨b2, off2, rfl, hcs⟩ := (HA.out.below HO.out (Nat.le_refl _)) (by omega)
          obtain ⟨x, hx⟩ : ∃ x, x = (X k).getD j 0 := ⟨_, rfl⟩
          have hcx : wr.cell? ⟨b2, off2 + j, none⟩ = some (.int .i64 x) := by rw [hx]; exact hcs j hjl
          have HX := hide hx
          clear hcs hx
          by_cases g1 : x < 0
          · go_wp2
            go_ret
            exact ⟨⟨false, rfl, fun h => by cases h⟩, HO.out⟩
          · by_cases g2 : (n : Int) ≤ x
            · go_wp2
              go_ret
              exact ⟨⟨false, rfl, fun h => by cases h⟩, HO.out⟩
            · obtain ⟨m, rfl⟩ : ∃ m : Nat, x = (m : Int) := ⟨x.toNat, by omega⟩
              obtain ⟨o, ho⟩ : ∃ o, l2[m]? = some o := ⟨l2[m]'(by rw [HL.out]; omega), List.getElem?_eq_getElem _⟩
              have hcm : wr.cell? ⟨w.heap.size, m, none⟩ = some (.bool o) := by rw [HB.out.cell, bools_get _ _ _ ho]
              have hfm := HB.out.free m
              have HOO := hide ho
              clear ho
              cases o
              · have HS := hide (HB.out.set m (.bool true))
                rw [bools_set] at HS
                go_wp2
                go_roundw
                case rel => exact ⟨j + 1, l2.set m true, by omega, by go_num, by rw [List.length_set]; exact HL.out, by rw [cnt_set l2 m HOO.out, HC.out]; omega, HM.out.set hlt hjl HX.out.symm, fun i hi => by
                              by_cases e : i = j
                              · subst e
                                unfold InRange
                                rw [← HX.out]
                                omega
                              · exact HG.out i (by omega), HS.out, HO.out.setCell (Nat.le_refl _) _⟩
                case measure => simp [intOf]; omega
              · go_wp2
                go_ret
                exact ⟨⟨false, rfl, fun h => by cases h⟩, HO.out⟩
        · obtain rfl : j = L k := by omega
          go_wp2
          go_roundw
          case rel => exact ⟨k + 1, l2, by omega, by go_num, HL.out, HC.out, HM.out, fun s i hs hi => by
                        by_cases e : s = k
                        · subst e
                          exact HG.out i hi
                        · exact HG0.out s i (by omega) hi, HB.out, HO.out⟩
          case measure => simp [intOf]; omega
    · go_wp2
      go_ret
      obtain rfl : k = S := by omega
      exact ⟨⟨true, rfl, fun _ => by rw [HN.out]; exact lays_of (by rw [HL.out, HN.out]) HC.out HM.out (by rw [← HN.out]; exact HG.out)⟩, HO.out⟩

end Go.Proofs.Qxb6615810a
