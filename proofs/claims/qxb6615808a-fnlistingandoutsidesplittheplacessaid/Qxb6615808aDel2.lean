/-
  The walk of 'slices.DeleteFunc' (36) at a slice of runs.
-/
import Derived.Test.Qxb6615808aDel
namespace Go.Proofs.Qxb6615808a
open Go.RowKit

/-- Those that hold someone. -/
def kept (rs : List Rn) : List Rn := rs.filter fun r => !r.void

theorem kept_snoc_yes (rs : List Rn) (j : Nat) (r : Rn) (hr : rs[j]? = some r) (hv : r.void = false) : kept (rs.take (j + 1)) = kept (rs.take j) ++ [r] := by
  obtain ⟨h, rfl⟩ := List.getElem?_eq_some_iff.1 hr
  unfold kept
  rw [List.take_succ_eq_append_getElem h, List.filter_append]
  simp only [List.filter_cons, List.filter_nil, hv]
  rfl
theorem kept_snoc_no (rs : List Rn) (j : Nat) (r : Rn) (hr : rs[j]? = some r) (hv : r.void = true) : kept (rs.take (j + 1)) = kept (rs.take j) := by
  obtain ⟨h, rfl⟩ := List.getElem?_eq_some_iff.1 hr
  unfold kept
  rw [List.take_succ_eq_append_getElem h, List.filter_append]
  simp only [List.filter_cons, List.filter_nil, hv]
  simp
theorem kept_all : ∀ (rs : List Rn) (k : Nat), k ≤ firstVoid rs → kept (rs.take k) = rs.take k
  | [], k, _ => by simp [kept]
  | x :: rs, 0, _ => by simp [kept]
  | x :: rs, k + 1, h => by
    by_cases hv : x.void = true
    · rw [firstVoid, if_pos hv] at h; omega
    · rw [firstVoid, if_neg hv] at h
      have := kept_all rs k (by omega)
      simp [kept] at this ⊢
      exact ⟨by simpa using hv, this⟩
theorem firstVoid_le : ∀ rs : List Rn, firstVoid rs ≤ rs.length
  | [] => Nat.le_refl _
  | x :: rs => by
    have := firstVoid_le rs
    simp only [firstVoid, List.length_cons]
    split <;> omega
theorem firstVoid_void : ∀ (rs : List Rn), firstVoid rs < rs.length → ∃ r, rs[firstVoid rs]? = some r ∧ r.void = true
  | [], h => by simp at h
  | x :: rs, h => by
    by_cases hv : x.void = true
    · rw [firstVoid, if_pos hv]; exact ⟨x, by simp, hv⟩
    · rw [firstVoid, if_neg hv] at h ⊢
      obtain ⟨r, h1, h2⟩ := firstVoid_void rs (by simpa using h)
      exact ⟨r, by simpa using h1, h2⟩

theorem idx_cases (rs : List Rn) : (idxOf rs = -1 ∧ kept rs = rs) ∨ ∃ k, k < rs.length ∧ idxOf rs = (k : Int) ∧ kept (rs.take (k + 1)) = rs.take k := by
  by_cases h : firstVoid rs < rs.length
  · refine .inr ⟨firstVoid rs, h, by unfold idxOf; rw [if_pos h], ?_⟩
    obtain ⟨r, h1, h2⟩ := firstVoid_void rs h
    rw [kept_snoc_no rs _ r h1 h2, kept_all rs _ (Nat.le_refl _)]
  · refine .inl ⟨by unfold idxOf; rw [if_neg h], ?_⟩
    have hl := firstVoid_le rs
    have := kept_all rs rs.length (by omega)
    simpa using this

theorem flat_append (a b : List Rn) : flat (a ++ b) = flat a ++ flat b := by simp [flat]
theorem flat_set : ∀ (cur : List Rn) (i : Nat) (r : Rn), i < cur.length →
    ((((((flat cur).set (i * 5) (.int .i64 r.lo)).set (i * 5 + 1) (.int .i64 r.hi)).set (i * 5 + 2) (.slice r.ad r.len r.cap)).set (i * 5 + 3) (.pointer r.of)).set (i * 5 + 4) (.bool r.comp)) = flat (cur.set i r)
  | [], i, r, h => by simp at h
  | x :: cur, 0, r, _ => by simp [flat_cons, Rn.vals]
  | x :: cur, i + 1, r, h => by
    have ih := flat_set cur i r (by simpa using h)
    rw [List.set_cons_succ, flat_cons, flat_cons, ← ih]
    have e : ∀ t, (i + 1) * 5 + t = (i * 5 + t) + 5 := fun t => by omega
    have e0 : (i + 1) * 5 = i * 5 + 5 := by omega
    rw [e 1, e 2, e 3, e 4, e0]
    simp [Rn.vals]

theorem blk_set5 {w : World} {g : Nat} {cur : List Rn} (h : Blk w g 37 (flat cur)) (i : Nat) (hi : i < cur.length) (r : Rn) :
    Blk (((((w.setCell ⟨g, i * 5, none⟩ (.int .i64 r.lo)).setCell ⟨g, i * 5 + 1, none⟩ (.int .i64 r.hi)).setCell ⟨g, i * 5 + 2, none⟩ (.slice r.ad r.len r.cap)).setCell ⟨g, i * 5 + 3, none⟩ (.pointer r.of)).setCell ⟨g, i * 5 + 4, none⟩ (.bool r.comp)) g 37 (flat (cur.set i r)) := by
  rw [← flat_set cur i r hi]
  exact ((((h.set _ _).set _ _).set _ _).set _ _).set _ _


theorem zeroCells_one {m : Nat} : ∀ v ∈ (Builtin.zeroCells #[.int .i64 0, .int .i64 0, .slice none 0 0, .pointer none, .bool false] m).toList, Value.oneCell' v = true := by
  intro v hv
  simp [Builtin.zeroCells] at hv
  obtain ⟨k, _, rfl⟩ := hv
  have h5 : k % 5 < 5 := Nat.mod_lt _ (by omega)
  rcases (show k % 5 = 0 ∨ k % 5 = 1 ∨ k % 5 = 2 ∨ k % 5 = 3 ∨ k % 5 = 4 by omega) with e | e | e | e | e <;> rw [e] <;> rfl

/-- 'clear(s[i:])': what lies ahead of i stays. -/
theorem run_clear_runs (w : World) (g i m c : Nat) (A B : List Rn) (hb : Blk w g 37 (flat (A ++ B))) (hA : A.length = i) (hB : B.length = m) (hm : 0 < m) :
    ∃ w' rest, (∀ ty, (Builtin.clear_ #[44] ty #[.slice (some ⟨g, i * 5, none⟩) m c]).run Try.prog w = .ok (.tuple #[]) w') ∧ Blk w' g 37 (flat A ++ rest) ∧ Only g w w' := by
  generalize hZ : (Builtin.zeroCells #[.int .i64 0, .int .i64 0, .slice none 0 0, .pointer none, .bool false] m) = Z
  have hZ1 : ∀ v ∈ Z.toList, Value.oneCell' v = true := by rw [← hZ]; exact zeroCells_one
  have hZs : Z.size = m * 5 := by rw [← hZ]; simp [Builtin.zeroCells]
  have hs := run_storeCells_at (P := Try.prog) g (i * 5) 37 Z.toList 0 (flat (A ++ B)).toArray w hb (by simp [flat_length, hZs, hA, hB]; omega) hZ1
  have hlA : (flat A).length = i * 5 := by rw [flat_length, hA]
  have ht : (flat (A ++ B)).take (i * 5) = flat A := by rw [flat_append, ← hlA]; simp
  simp only [Nat.add_zero, ht, List.append_assoc] at hs
  refine ⟨w.setRow g (flat A ++ (Z.toList ++ (flat (A ++ B)).drop (i * 5 + Z.toList.length))).toArray, Z.toList ++ (flat (A ++ B)).drop (i * 5 + Z.toList.length), fun ty => ?_, ?_, ?_⟩
  · obtain ⟨k, rfl⟩ : ∃ k, m = k + 1 := ⟨m - 1, by omega⟩
    simp [Builtin.clear_, run_underlying Try.underlying44, Value.cells, hZ, hs]
  · exact setRow_heap w g _ _ _ _ hb
  · exact ⟨rfl, rfl, rfl, by simp [World.setRow], fun k hk => by simp only [World.setRow, Array.getElem?_modify]; rw [if_neg (by omega)]⟩

/-- What the loop of 'slices.DeleteFunc' keeps: the first i of 'cur' are those of the first j of 'rs' that hold someone; from j on 'cur' is 'rs'. -/
def Kept (rs cur : List Rn) (i j : Nat) : Prop := cur.length = rs.length ∧ cur.take i = kept (rs.take j) ∧ ∀ m, j ≤ m → cur[m]? = rs[m]?

theorem Kept.yes {rs cur : List Rn} {i j : Nat} {r : Rn} (h : Kept rs cur i j) (hij : i < j) (hr : rs[j]? = some r) (hv : r.void = false) : Kept rs (cur.set i r) (i + 1) (j + 1) := by
  obtain ⟨h1, h2, h3⟩ := h
  have hj := (List.getElem?_eq_some_iff.1 hr).1
  refine ⟨by rw [List.length_set]; exact h1, ?_, fun m hm => ?_⟩
  · rw [kept_snoc_yes rs j r hr hv, ← h2, List.take_succ_eq_append_getElem (by rw [List.length_set]; omega), List.getElem_set_self, List.take_set_of_le (Nat.le_refl _)]
  · rw [List.getElem?_set_ne (by omega), h3 m (by omega)]
theorem Kept.no {rs cur : List Rn} {i j : Nat} {r : Rn} (h : Kept rs cur i j) (hr : rs[j]? = some r) (hv : r.void = true) : Kept rs cur i (j + 1) := by
  obtain ⟨h1, h2, h3⟩ := h
  exact ⟨h1, by rw [kept_snoc_no rs j r hr hv]; exact h2, fun m hm => h3 m (by omega)⟩
theorem Kept.done {rs cur : List Rn} {i : Nat} (h : Kept rs cur i rs.length) (hi : i ≤ rs.length) : cur.take i = kept rs ∧ (kept rs).length = i := by
  obtain ⟨h1, h2, _⟩ := h
  rw [List.take_length] at h2
  exact ⟨h2, by rw [← h2, List.length_take]; omega⟩

set_option maxHeartbeats 1000000 in
theorem delete_any (g cap : Nat) (rs : List Rn) (w : World) (hblk : Blk w g 37 (flat rs)) (hok : ∀ r ∈ rs, r.ok) (hN : rs.length ≤ 4096) (hcap : rs.length ≤ cap) (hcap2 : cap ≤ 4096) :
    Calls Try.prog 36 #[.slice (some ⟨g, 0, none⟩) rs.length cap, .func (.func 37) #[] #[]] w fun e w' => e = .returned (.slice (some ⟨g, 0, none⟩) (kept rs).length cap) ∧ (∃ rest, Blk w' g 37 (flat (kept rs) ++ rest)) ∧ Below g w w' := by
  have HB := hide hblk
  have HOK := hide hok
  have hgl := hblk.lt
  have CI := index_any g cap rs w hblk hok hN
  have HCI := hide CI
  clear hblk hok CI
  rcases idx_cases rs with ⟨hi, hk⟩ | ⟨k, hkl, hi, hk⟩
  · rw [hi] at HCI
    have HK := hide hk
    clear hk hi
    go_enter Try.func36, Try.ntmps36
    go_wp2_with fail
    refine HCI.out.mono ?_
    rintro e w1 ⟨rfl, hb1⟩
    have HB1 := hide hb1
    clear hb1
    go_wp2
    go_ret
    rw [HK.out]
    exact ⟨rfl, ⟨[], by rw [List.append_nil]; exact HB.out.below HB1.out hgl⟩, HB1.out.mono (by omega)⟩
  · rw [hi] at HCI
    have HK := hide hk
    clear hk hi
    have hne : ((k : Int) == -1) = false := beq_eq_false_iff_ne.2 (by omega)
    go_enter Try.func36, Try.ntmps36
    go_wp2_with fail
    refine HCI.out.mono ?_
    rintro e w1 ⟨rfl, hb1⟩
    have HB1 := hide hb1
    clear hb1 HCI
    go_wp2
    go_loopw [5, 6] (fun p q wr => ∃ (i j : Nat) (cur : List Rn), i < j ∧ j ≤ rs.length ∧ p = .int .i64 (i : Int) ∧ q = .int .i64 (j : Int) ∧ Kept rs cur i j ∧ Blk wr g 37 (flat cur) ∧ Below g w wr) (fun _ q _ => rs.length - (intOf q).toNat)
    case atStart => exact ⟨k, k + 1, rs, by omega, by omega, rfl, by go_num, ⟨rfl, HK.out.symm, fun _ _ => rfl⟩, HB.out.below HB1.out hgl, HB1.out.mono (by omega)⟩
    case round =>
      obtain ⟨i, j, cur, hij, hj, rfl, rfl, hkp, hblk, hbel⟩ := hrel
      have HKP := hide hkp
      have HBK := hide hblk
      have HBL := hide hbel
      have hlen := hkp.1
      have hgr := hblk.lt
      by_cases hlt : j < rs.length
      · obtain ⟨r, hr⟩ : ∃ r, rs[j]? = some r := ⟨rs[j], List.getElem?_eq_getElem hlt⟩
        obtain ⟨c0, c1, c2, c3, c4⟩ := flat_cells hblk (by rw [hkp.2.2 j (Nat.le_refl _)]; exact hr)
        have HR := hide hr
        clear hkp hblk hbel hr hlen
        go_wp2_with fail
        refine (delR_any r (HOK.out r (List.mem_of_getElem? HR.out)) _).mono ?_
        rintro e w2 ⟨rfl, hb2⟩
        have hblk2 : Blk w2 g 37 (flat cur) := (HBK.out.alloc _).below hb2 (by simp; omega)
        have hbel2 : Below g w w2 := (HBL.out.alloc (by omega) _).trans (hb2.mono (by simp; omega))
        clear c0 c1 c2 c3 c4
        cases hv : r.void
        · have d0 : w2.cell? ⟨wr.heap.size, 0, none⟩ = some (.int .i64 r.lo) := by rw [hb2.cell (p := ⟨wr.heap.size, 0, none⟩) (by simp)]; simp
          have d1 : w2.cell? ⟨wr.heap.size, 1, none⟩ = some (.int .i64 r.hi) := by rw [hb2.cell (p := ⟨wr.heap.size, 1, none⟩) (by simp)]; simp
          have d2 : w2.cell? ⟨wr.heap.size, 2, none⟩ = some (.slice r.ad r.len r.cap) := by rw [hb2.cell (p := ⟨wr.heap.size, 2, none⟩) (by simp)]; simp
          have d3 : w2.cell? ⟨wr.heap.size, 3, none⟩ = some (.pointer r.of) := by rw [hb2.cell (p := ⟨wr.heap.size, 3, none⟩) (by simp)]; simp
          have d4 : w2.cell? ⟨wr.heap.size, 4, none⟩ = some (.bool r.comp) := by rw [hb2.cell (p := ⟨wr.heap.size, 4, none⟩) (by simp)]; simp
          have hil : i < cur.length := by rw [HKP.out.1]; omega
          obtain ⟨ro, hro⟩ : ∃ ro, cur[i]? = some ro := ⟨cur[i], List.getElem?_eq_getElem hil⟩
          obtain ⟨c0, c1, c2, c3, c4⟩ := flat_cells hblk2 hro
          have f0 := hblk2.free (i * 5)
          have f1 := hblk2.free (i * 5 + 1)
          have f2 := hblk2.free (i * 5 + 2)
          have f3 := hblk2.free (i * 5 + 3)
          have f4 := hblk2.free (i * 5 + 4)
          have HB2 := hide hblk2
          have HL2 := hide hbel2
          have HIL := hide hil
          clear hblk2 hbel2 hb2 hro hil
          go_wp2
          go_roundw
          case rel => exact ⟨i + 1, j + 1, cur.set i r, by omega, by omega, by go_num, by go_num, HKP.out.yes hij HR.out hv, blk_set5 HB2.out i HIL.out r, ((((HL2.out.setCell (Nat.le_refl _) _).setCell (Nat.le_refl _) _).setCell (Nat.le_refl _) _).setCell (Nat.le_refl _) _).setCell (Nat.le_refl _) _⟩
          case measure => simp [intOf]; omega
        · have HB2 := hide hblk2
          have HL2 := hide hbel2
          clear hblk2 hbel2 hb2
          go_wp2
          go_roundw
          case rel => exact ⟨i, j + 1, cur, by omega, by omega, rfl, by go_num, HKP.out.no HR.out hv, HB2.out, HL2.out⟩
          case measure => simp [intOf]; omega
      · obtain rfl : j = rs.length := by omega
        have hd := HKP.out.done (by omega)
        have hsp : cur = cur.take i ++ cur.drop i := (List.take_append_drop i cur).symm
        rw [hsp] at hblk
        obtain ⟨w2, rest, hrun, hblk2, honly⟩ := run_clear_runs wr g i (rs.length - i) (cap - i) (cur.take i) (cur.drop i) hblk (by rw [List.length_take]; omega) (by rw [List.length_drop, hlen]) (by omega)
        rw [hd.1] at hblk2
        have HB2 := hide hblk2
        have HL2 := hide (hbel.trans (honly.below (Nat.le_refl _)))
        have HN := hide hd.2
        clear hd hsp hblk hblk2 honly hbel hkp hlen
        go_wp2
        go_ret
        rw [HN.out]
        exact ⟨rfl, ⟨rest, HB2.out⟩, HL2.out⟩

end Go.Proofs.Qxb6615808a
