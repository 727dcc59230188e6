/-
  The walk of 'PlacesOf' (36).
-/
import Derived.Test.Qxb6615810aPerm
namespace Go.Proofs.Qxb6615810a
open Go.RowKit

theorem Try.info33 : (Try.prog.info? 33).map (fun i => (i.zero, i.size, i.bytes)) = some (some (.agg #[.int .i64 0, .int .i64 0]), 2, 16) := by kernel_rfl

theorem madeCells_two (v : Value) (n : Nat) : madeCells #[v, v] n = (List.replicate n v).toArray := by
  apply Array.ext
  · simp [madeCells]
  · intro i h1 h2
    simp only [madeCells, Array.getElem_map, Array.getElem_range]
    have : i % 2 = 0 ∨ i % 2 = 1 := by omega
    rcases this with e | e <;> simp [e]

/-- 'make([]T, n)', T of two cells alike: a new block of 2 n such cells. -/
theorem wpList_make_blk2 {P : Program} (w : World) {ops : Array Oper} {rest : List Oper} {o : Oper} {a : Act} {Q : Exit → Act → World → Prop}
    (hg : o.guard = none) (l c : Operand) (t : TypeId) (hop : o.op = Op.makeSlice t l c)
    (e : TypeId) (i : TypeInfo) (z v : Value) (h1 : P.underlying t = some (.slice e)) (h2 : P.info? e = some i) (h3 : i.zero = some z) (h4 : i.size = 2) (h5 : z.cells = #[v, v])
    (kl kc : IntKind) (L C : Int) (n : Nat) (hl : a.eval l = .int kl L) (hc : a.eval c = .int kc C) (hL : L = (n : Int)) (hC : C = (n : Int)) (b2 : i.bytes * n ≤ 281474976710656) (b3 : n ≤ 9223372036854775807)
    (hK : ∀ w', Blk w' w.heap.size e (List.replicate (n * 2) v) → Below w.heap.size w w' → w'.heap.size = w.heap.size + 1 → wpList P ops Q rest (a.put o.dst (.slice (some ⟨w.heap.size, 0, none⟩) n n)) w') :
    wpList P ops Q (o :: rest) a w := by
  refine wpList_plain hg fun K hK' => ?_
  have hb' : (i.bytes : Int) * (n : Int) ≤ 281474976710656 := by
    have h : ((i.bytes * n : Nat) : Int) ≤ 281474976710656 := by omega
    rwa [Int.natCast_mul] at h
  have hr := run_make (P := P) w t e i z h1 h2 h3 kl kc n n (by omega) (Int.le_refl _) hb' (by omega)
  simp only [Int.toNat_natCast] at hr
  rw [h5, h4, madeCells_two] at hr
  subst hL
  subst hC
  unfold Oper.wp
  simp [execOp, hop, hl, hc, hr, Result.andThen]
  refine hK' _ _ (hK _ ?_ ((Below.refl _ _).alloc (Nat.le_refl _) _) (by simp))
  have hn := Blk.new w (List.replicate (n * 2) v) e
  simpa using hn

/-- The places, as cells. -/
def flat2 : List (Nat × Nat) → List Value
  | [] => []
  | p :: l => .int .i64 (p.1 : Int) :: .int .i64 (p.2 : Int) :: flat2 l
theorem flat2_zero : ∀ n, List.replicate (n * 2) (Value.int .i64 0) = flat2 (List.replicate n (0, 0))
  | 0 => rfl
  | n + 1 => by
    rw [show (n + 1) * 2 = n * 2 + 1 + 1 by omega, List.replicate_succ, List.replicate_succ, List.replicate_succ, flat2, flat2_zero n]
    rfl
theorem flat2_set : ∀ (l : List (Nat × Nat)) (t s i : Nat), ((flat2 l).set (t * 2) (.int .i64 (s : Int))).set (t * 2 + 1) (.int .i64 (i : Int)) = flat2 (l.set t (s, i))
  | [], t, s, i => by simp [flat2]
  | p :: l, 0, s, i => by simp [flat2]
  | p :: l, t + 1, s, i => by
    have ih := flat2_set l t s i
    rw [List.set_cons_succ, flat2, flat2, ← ih, show (t + 1) * 2 + 1 = (t * 2 + 1) + 1 + 1 by omega, show (t + 1) * 2 = t * 2 + 1 + 1 by omega]
    simp
theorem flat2_get : ∀ (l : List (Nat × Nat)) (t : Nat) (p : Nat × Nat), l[t]? = some p → (flat2 l)[t * 2]? = some (.int .i64 (p.1 : Int)) ∧ (flat2 l)[t * 2 + 1]? = some (.int .i64 (p.2 : Int))
  | [], t, p, h => by simp at h
  | q :: l, 0, p, h => by
    simp at h
    subst h
    simp [flat2]
  | q :: l, t + 1, p, h => by
    have ih := flat2_get l t p (by simpa using h)
    rw [show (t + 1) * 2 + 1 = (t * 2 + 1) + 1 + 1 by omega, show (t + 1) * 2 = t * 2 + 1 + 1 by omega]
    simpa [flat2] using ih

/-- Entry t of the places says where t lies in the layout. -/
def PlOk (S : Nat) (L : Nat → Nat) (X : Nat → List Int) (pl : List (Nat × Nat)) (t : Nat) : Prop := ∃ s i, pl[t]? = some (s, i) ∧ s < S ∧ i < L s ∧ (X s).getD i 0 = (t : Int)
theorem PlOk.set {S : Nat} {L : Nat → Nat} {X : Nat → List Int} {pl : List (Nat × Nat)} {t : Nat} (h : PlOk S L X pl t) {k j m : Nat} (hk : k < S) (hj : j < L k) (hm : (X k).getD j 0 = (m : Int)) : PlOk S L X (pl.set m (k, j)) t := by
  obtain ⟨s, i, h1, h2, h3, h4⟩ := h
  by_cases e : m = t
  · subst e
    exact ⟨k, j, by rw [List.getElem?_set_self (List.getElem?_eq_some_iff.1 h1).1], hk, hj, hm⟩
  · exact ⟨s, i, by rw [List.getElem?_set_ne e]; exact h1, h2, h3, h4⟩
theorem PlOk.new {S : Nat} {L : Nat → Nat} {X : Nat → List Int} {pl : List (Nat × Nat)} {k j m : Nat} (hl : m < pl.length) (hk : k < S) (hj : j < L k) (hm : (X k).getD j 0 = (m : Int)) : PlOk S L X (pl.set m (k, j)) m :=
  ⟨k, j, by rw [List.getElem?_set_self hl], hk, hj, hm⟩

set_option maxHeartbeats 1000000 in
theorem places_any (a : Option Addr) (S cap n : Nat) (A : Nat → Option Addr) (L C : Nat → Nat) (X : Nat → List Int) (w : World) (hm : S ≤ 4096) (hn : n = pre L S) (hn2 : n ≤ 131072) (h : Rws w a S A L C X) (hlay : Lays S n L X) :
    Calls Try.prog 36 #[.slice a S cap] w fun e w' => ∃ g pl, e = .returned (.slice (some ⟨g, 0, none⟩) n n) ∧ pl.length = n ∧ (∀ t, t < n → PlOk S L X pl t) ∧ Blk w' g 33 (flat2 pl) ∧ w.heap.size ≤ g ∧ Below w.heap.size w w' := by
  have HN := hide hn
  have HR := hide h
  have HY := hide hlay
  obtain ⟨i0, hi0, hz0, hz1, hz2⟩ := info_parts Try.info33
  clear hn h hlay
  go_enter Try.func36, Try.ntmps36
  go_wp2
  go_loop [3, 13] (fun nv iv => ∃ k : Nat, k ≤ S ∧ iv = .int .i64 (k : Int) ∧ nv = .int .i64 (pre L k : Int)) (fun _ iv => S - (intOf iv).toNat)
  case atStart => exact ⟨0, Nat.zero_le _, rfl, rfl⟩
  case round =>
    obtain ⟨k, hk, rfl, rfl⟩ := hrel
    have hp0 := pre_le L k S hk
    rw [← HN.out] at hp0
    by_cases hlt : k < S
    · obtain ⟨b, off, rfl, hcs⟩ := HR.out (by omega)
      obtain ⟨hcell, _, _⟩ := hcs k hlt
      have hp1 := pre_row L k S hlt
      rw [← HN.out] at hp1
      have HP : Hid (pre L (k + 1) = pre L k + L k) := rfl
      clear hcs
      generalize L k = ln at hcell hp1 HP
      generalize A k = an at hcell
      generalize C k = cn at hcell
      go_wp2
      go_round
      case rel => exact ⟨k + 1, by omega, by go_num, by rw [HP.out]; go_num⟩
      case measure => simp [intOf]; omega
    · obtain rfl : S = k := by omega
      rw [← HN.out]
      go_wp2_with (at_make; refine wpList_make_blk2 _ rfl _ _ 26 rfl 33 i0 (.agg #[.int .i64 0, .int .i64 0]) (.int .i64 0) Try.underlying26 hi0 hz0 hz1 rfl _ _ _ _ n rfl rfl rfl rfl (by rw [hz2]; omega) (by omega) ?_; intro w1 hk1 hb1 hs1)
      rw [flat2_zero] at hk1
      have K1 := hide hk1
      have B1 := hide hb1
      clear hk1 hb1 hs1 hi0 hz0 hz1 hz2 hp0 hlt
      go_wp2
      go_loopw [26] (fun iv wr => ∃ (k : Nat) (pl : List (Nat × Nat)), k ≤ S ∧ iv = .int .i64 (k : Int) ∧ pl.length = n ∧ (∀ s i, s < k → i < L s → PlOk S L X pl ((X s).getD i 0).toNat) ∧ Blk wr w.heap.size 33 (flat2 pl) ∧ Below w.heap.size w wr) (fun iv _ => S - (intOf iv).toNat)
      case atStart => exact ⟨0, List.replicate n (0, 0), Nat.zero_le _, rfl, by simp, fun s i h => by omega, K1.out, B1.out⟩
      case round =>
        clear hk
        obtain ⟨k, pl, hk, rfl, hl, hpo, hblk, hbel⟩ := hrel
        have HL := hide hl
        have HP := hide hpo
        have HB := hide hblk
        have HO := hide hbel
        clear hl hpo hblk hbel
        by_cases hlt : k < S
        · obtain ⟨b, off, rfl, hcs⟩ := (HR.out.below HO.out) (by omega)
          obtain ⟨hcell, _, _⟩ := hcs k hlt
          obtain ⟨b', off', e', hcs'⟩ := HR.out (by omega)
          have HA := hide (hcs' k hlt).2.2
          clear hcs hcs' e' b' off'
          have hpr := pre_row L k S hlt
          have hLk : L k ≤ 131072 := by rw [← HN.out] at hpr; omega
          clear hpr
          generalize hA : A k = ak at hcell HA
          clear hA
          go_wp2
          go_loopw [33] (fun iv wr => ∃ (j : Nat) (pl : List (Nat × Nat)), j ≤ L k ∧ iv = .int .i64 (j : Int) ∧ pl.length = n ∧ (∀ s i, (s < k ∧ i < L s) ∨ (s = k ∧ i < j) → PlOk S L X pl ((X s).getD i 0).toNat) ∧ Blk wr w.heap.size 33 (flat2 pl) ∧ Below w.heap.size w wr) (fun iv _ => L k - (intOf iv).toNat)
          case atStart => exact ⟨0, pl, Nat.zero_le _, rfl, HL.out, fun s i h => by
                            rcases h with h | h
                            · exact HP.out s i h.1 h.2
                            · omega, HB.out, HO.out⟩
          case round =>
            clear hcell HL HP HB HO
            obtain ⟨j, pl2, hj, rfl, hl, hpo, hblk, hbel⟩ := hrel
            have HL := hide hl
            have HP := hide hpo
            have HB := hide hblk
            have HO := hide hbel
            clear hl hpo hblk hbel
            by_cases hjl : j < L k
            · obtain ⟨b2, off2, rfl, hcs⟩ := (HA.out.below HO.out (Nat.le_refl _)) (by omega)
              have hrg := HY.out.range k j hlt hjl
              unfold InRange at hrg
              obtain ⟨m, hx⟩ : ∃ m : Nat, (X k).getD j 0 = (m : Int) := ⟨((X k).getD j 0).toNat, by omega⟩
              have hcx : wr.cell? ⟨b2, off2 + j, none⟩ = some (.int .i64 (m : Int)) := by rw [← hx]; exact hcs j hjl
              have hmn : m < n := by rw [hx] at hrg; omega
              have hml : m < pl2.length := by rw [HL.out]; exact hmn
              obtain ⟨hc0, hc1⟩ := flat2_get pl2 m pl2[m] (List.getElem?_eq_getElem hml)
              have hd0 : wr.cell? ⟨w.heap.size, m * 2, none⟩ = some (.int .i64 (pl2[m].1 : Int)) := by rw [HB.out.cell]; exact hc0
              have hd1 : wr.cell? ⟨w.heap.size, m * 2 + 1, none⟩ = some (.int .i64 (pl2[m].2 : Int)) := by rw [HB.out.cell]; exact hc1
              have hf0 := HB.out.free (m * 2)
              have hf1 := HB.out.free (m * 2 + 1)
              have HS := hide ((HB.out.set (m * 2) (.int .i64 (k : Int))).set (m * 2 + 1) (.int .i64 (j : Int)))
              rw [flat2_set] at HS
              have HX := hide hx
              have HML := hide hml
              generalize pl2[m].1 = q0 at hd0
              generalize pl2[m].2 = q1 at hd1
              clear hcs hx hrg hc0 hc1 hml
              go_wp2
              go_roundw
              case rel => exact ⟨j + 1, pl2.set m (k, j), by omega, by go_num, by rw [List.length_set]; exact HL.out, fun s i h => by
                            by_cases e : s = k ∧ i = j
                            · obtain ⟨rfl, rfl⟩ := e
                              rw [HX.out, Int.toNat_natCast]
                              exact PlOk.new HML.out hlt hjl HX.out
                            · exact (HP.out s i (by omega)).set hlt hjl HX.out, HS.out, (HO.out.setCell (Nat.le_refl _) _).setCell (Nat.le_refl _) _⟩
              case measure => simp [intOf]; omega
            · obtain rfl : j = L k := by omega
              go_wp2
              go_roundw
              case rel => exact ⟨k + 1, pl2, by omega, by go_num, HL.out, fun s i hs hi => HP.out s i (by
                            by_cases e : s = k
                            · subst e; exact .inr ⟨rfl, hi⟩
                            · exact .inl ⟨by omega, hi⟩), HB.out, HO.out⟩
              case measure => simp [intOf]; omega
        · obtain rfl : S = k := by omega
          go_wp2
          go_ret
          refine ⟨w.heap.size, pl, rfl, HL.out, fun t ht => ?_, HB.out, Nat.le_refl _, HO.out⟩
          obtain ⟨s, i, hs, hi, hx⟩ := HY.out.onto t ht
          have := HP.out s i hs hi
          rwa [hx, Int.toNat_natCast] at this

end Go.Proofs.Qxb6615810a
