/-
  The walk of 'zzAppendHeld' (26).
-/
import Derived.Test.Qxb6615808aRuns
import Derived.Deep.AppendLies
namespace Go.Proofs.Qxb6615808a
open Go.RowKit

/-- The places that the run holds among the k from a on. -/
def heldL (zs : List Int) (len : Nat) (comp : Bool) (a : Nat) : Nat → List Int
  | 0 => []
  | k + 1 => heldL zs len comp a k ++ if holdsB zs len comp ((a + k : Nat) : Int) = true then [((a + k : Nat) : Int)] else []

theorem heldL_yes {zs : List Int} {len : Nat} {comp : Bool} {a q : Nat} (haq : a ≤ q) (h : holdsB zs len comp (q : Int) = true) : heldL zs len comp a (q + 1 - a) = heldL zs len comp a (q - a) ++ [(q : Int)] := by
  have e : a + (q - a) = q := by omega
  rw [show q + 1 - a = (q - a) + 1 by omega, heldL, e, if_pos h]
theorem heldL_no {zs : List Int} {len : Nat} {comp : Bool} {a q : Nat} (haq : a ≤ q) (h : holdsB zs len comp (q : Int) = false) : heldL zs len comp a (q + 1 - a) = heldL zs len comp a (q - a) := by
  have e : a + (q - a) = q := by omega
  rw [show q + 1 - a = (q - a) + 1 by omega, heldL, e, if_neg (by rw [h]; simp), List.append_nil]
theorem heldL_length (zs : List Int) (len : Nat) (comp : Bool) (a : Nat) : ∀ k, (heldL zs len comp a k).length = heldN zs len comp a k
  | 0 => rfl
  | k + 1 => by
    rw [heldL, heldN, List.length_append, heldL_length zs len comp a k]
    split <;> rfl
theorem heldL_mem (zs : List Int) (len : Nat) (comp : Bool) (a : Nat) : ∀ k x, x ∈ heldL zs len comp a k → (a : Int) ≤ x ∧ x < ((a + k : Nat) : Int)
  | 0, x, h => by simp [heldL] at h
  | k + 1, x, h => by
    rw [heldL, List.mem_append] at h
    rcases h with h | h
    · have := heldL_mem zs len comp a k x h; omega
    · split at h
      · simp at h; omega
      · simp at h

/-- l, and behind it the places that the run holds from a up to q. -/
def appTo (zs : List Int) (len : Nat) (comp : Bool) (a : Nat) (l : List Int) (q : Nat) : List Int := l ++ heldL zs len comp a (q - a)
theorem appTo_start (zs : List Int) (len : Nat) (comp : Bool) (a : Nat) (l : List Int) : appTo zs len comp a l a = l := by rw [appTo, Nat.sub_self, heldL, List.append_nil]
theorem appTo_yes {zs : List Int} {len : Nat} {comp : Bool} {a q : Nat} {l : List Int} (haq : a ≤ q) (h : holdsB zs len comp (q : Int) = true) : appTo zs len comp a l (q + 1) = appTo zs len comp a l q ++ [(q : Int)] := by
  rw [appTo, appTo, heldL_yes haq h, List.append_assoc]
theorem appTo_no {zs : List Int} {len : Nat} {comp : Bool} {a q : Nat} {l : List Int} (haq : a ≤ q) (h : holdsB zs len comp (q : Int) = false) : appTo zs len comp a l (q + 1) = appTo zs len comp a l q := by
  rw [appTo, appTo, heldL_no haq h]
theorem appTo_le (zs : List Int) (len : Nat) (comp : Bool) (a : Nat) (l : List Int) (q : Nat) : (appTo zs len comp a l q).length ≤ l.length + (q - a) := by
  have := held_le zs len comp a (q - a)
  rw [appTo, List.length_append, heldL_length]
  omega
theorem appTo_mem {zs : List Int} {len : Nat} {comp : Bool} {a q : Nat} {l : List Int} (haq : a ≤ q) (hl : ∀ x ∈ l, x < (a : Int)) : ∀ x ∈ appTo zs len comp a l q, x < (q : Int) := by
  intro x hx
  rcases List.mem_append.1 hx with h | h
  · have := hl _ h; omega
  · have := heldL_mem _ _ _ _ _ _ h; omega
theorem appTo_last {zs : List Int} {len : Nat} {comp : Bool} {a q : Nat} {l : List Int} (haq : a ≤ q) (hl : ∀ x ∈ l, x < (a : Int)) (k : Nat) (hk : k < (appTo zs len comp a l q).length) : (appTo zs len comp a l q).getD k 0 < (q : Int) := by
  refine appTo_mem (zs := zs) (len := len) (comp := comp) haq hl _ ?_
  rw [List.getD_eq_getElem?_getD, List.getElem?_eq_getElem hk]
  simp

/-- The slice value owns the numbers l, in block g. -/
def Dst (w : World) (g c : Nat) (l : List Int) : Prop := w.ownsRow 0 3 1 (.slice (some ⟨g, 0, none⟩) l.length c) l.length (ints l)
theorem Dst.lt {w : World} {g c : Nat} {l : List Int} (h : Dst w g c l) : g < w.heap.size := (World.ownsRow.lt h g rfl).2
theorem Dst.cell {w : World} {g c : Nat} {l : List Int} (h : Dst w g c l) (i : Nat) (hi : i < l.length) : w.cell? ⟨g, i, none⟩ = some (.int .i64 (l.getD i 0)) := by
  rw [World.ownsRow.cellAt h i (by omega), ints_get _ _ hi]
theorem Dst.but {w w' : World} {k g c : Nat} {l : List Int} (h : Dst w g c l) (hb : But k w w') (hne : g ≠ k) : Dst w' g c l :=
  World.ownsRow.kept (row := some k) h ⟨hb.os, hb.tape, hb.output, hb.size, fun i hi hn => hb.block i hi (fun e => hn (by rw [e]))⟩ (.inr (fun e => by simp [Value.ownBlock] at e; exact hne e))
theorem Dst.below {w w' : World} {g c : Nat} {l : List Int} (h : Dst w g c l) (hb : Below w.heap.size w w') : Dst w' g c l :=
  World.ownsRow.kept (row := none) h ⟨hb.os, hb.tape, hb.output, hb.size, fun i hi _ => hb.block i hi⟩ (.inr (by simp [Value.ownBlock]))
theorem But.grown {g g' : Nat} {w a b : World} (h : But g w a) (hg : a.grownBy b (some g')) (he : g' = g ∨ w.heap.size ≤ g') : But g w b :=
  ⟨hg.os.trans h.os, hg.tape.trans h.tape, hg.output.trans h.output, Nat.le_trans h.size hg.size, fun k hk hne => (hg.block k (Nat.lt_of_lt_of_le hk h.size) (fun e => by simp at e; omega)).trans (h.block k hk hne)⟩

theorem dst_of {w : World} {g c q : Nat} {L : List Int} (h : w.ownsRow 0 3 1 (.slice (some ⟨g, 0, none⟩) (L.length + 1) c) (L.length + 1) (ints L ++ [.int .i64 (q : Int)])) : Dst w g c (L ++ [(q : Int)]) := by
  unfold Dst
  rw [List.length_append]
  simpa [ints] using h
theorem at_of {w wr : World} {g gr g2 n c : Nat} (hs : w.heap.size ≤ wr.heap.size) (h : gr = g ∨ w.heap.size ≤ gr) (hat : (Value.slice (some ⟨gr, 0, none⟩) n c).ownBlock = some g2 ∨ g2 = wr.heap.size + 1) : g2 = g ∨ w.heap.size ≤ g2 := by
  simp [Value.ownBlock] at hat
  omega

set_option maxRecDepth 100000 in
set_option maxHeartbeats 1000000 in
theorem app_any (a : Nat) (hi : Int) (ad : Option Addr) (len cap : Nat) (zs : List Int) (comp : Bool) (n g c : Nat) (l : List Int) (w : World)
    (hlh : (a : Int) ≤ hi) (hn : hi ≤ (n : Int)) (hn2 : n ≤ 4096) (hlen : len ≤ 4096) (hasc : Asc zs len a hi) (hats : Ats w ad len zs) (haway : Away g ad) (hd : Dst w g c l) (hll : l.length ≤ 16384) (hbel : ∀ x ∈ l, x < (a : Int)) :
    Calls Try.prog 26 #[.int .i64 (a : Int), .int .i64 hi, .slice ad len cap, .bool comp, .int .i64 (n : Int), .slice (some ⟨g, 0, none⟩) l.length c] w fun e w' =>
      ∃ g' c', e = .returned (.tuple #[.slice (some ⟨g', 0, none⟩) (appTo zs len comp a l hi.toNat).length c', .bool true]) ∧ Dst w' g' c' (appTo zs len comp a l hi.toNat) ∧ But g w w' ∧ (g' = g ∨ w.heap.size ≤ g') := by
  have HD := hide hd
  have HA := hide hasc
  have HT := hide hats
  have HW := hide haway
  have HL := hide hbel
  have hab := asc_iff.2 hasc
  obtain ⟨i0, hi0, hz0, hz1, hz2⟩ := info_parts Try.info3
  clear hd hasc haway hbel
  go_enter Try.func26, Try.ntmps26
  go_wp2_with fail
  refine (asc_any ad len cap zs _ _ _ (by omega) hats).mono ?_
  rintro e w' ⟨rfl, nq, rfl⟩
  rw [hab]
  clear hab hats
  go_wp2
  go_loopw [5, 14, 15] (fun v j p wr => ∃ q m gr cr : Nat, a ≤ q ∧ (q : Int) ≤ hi ∧ p = .int .i64 (q : Int) ∧ m ≤ len ∧ j = .int .i64 (m : Int) ∧ (∀ i, i < m → zs.getD i 0 < (q : Int)) ∧ v = .slice (some ⟨gr, 0, none⟩) (appTo zs len comp a l q).length cr ∧
      Dst wr gr cr (appTo zs len comp a l q) ∧ But g w wr ∧ (gr = g ∨ w.heap.size ≤ gr)) (fun _ _ p _ => hi.toNat - (intOf p).toNat)
  case atStart => exact ⟨a, 0, g, c, Nat.le_refl _, hlh, rfl, Nat.zero_le _, rfl, fun i h => by omega, by rw [appTo_start], by rw [appTo_start]; exact HD.out, (But.refl g w).drewN _, .inl rfl⟩
  case round =>
    obtain ⟨q, m, gr, cr, haq, hq, rfl, hm, rfl, hbef, rfl, hdst, hbut, hgr⟩ := hrel
    have HBF := hide hbef
    have HDS := hide hdst
    have HBT := hide hbut
    have HGR := hide hgr
    have hln : (appTo zs len comp a l q).length ≤ 20480 := by
      have := appTo_le zs len comp a l q
      omega
    clear hbef hdst hbut hgr
    by_cases hlt : (q : Int) < hi
    · -- the last place so far
      have HLS := hide (appTo_last (zs := zs) (len := len) (comp := comp) haq HL.out)
      go_wp2_with fail
      go_loop [14] (fun j => ∃ m : Nat, m ≤ len ∧ j = .int .i64 (m : Int) ∧ ∀ i, i < m → zs.getD i 0 < (q : Int)) (fun j => len - (intOf j).toNat)
      case atStart => exact ⟨m, hm, rfl, HBF.out⟩
      case round =>
        clear HBF hm
        obtain ⟨j, hj, rfl, hbef⟩ := hrel
        have HBF := hide hbef
        clear hbef
        by_cases hml : j < len
        · obtain ⟨b, off, rfl, hcs⟩ := HT.out (by omega)
          obtain ⟨x, hx⟩ : ∃ x, x = zs.getD j 0 := ⟨_, rfl⟩
          have hxc : wr.cell? ⟨b, off + j, none⟩ = some (.int .i64 x) := by rw [World.cell?_of_block (w := w) (HBT.out.block b (World.block_lt_of_cell? w _ (hcs j hml)) (show b ≠ g from HW.out ⟨b, off, none⟩ rfl)), hx]; exact hcs j hml
          have HX := hide hx
          clear hcs hx
          by_cases h1 : x < (q : Int)
          · go_wp2
            go_round
            case rel => exact ⟨j + 1, by omega, by go_num, fun i hi' => by
                          by_cases e : i = j
                          · rw [e, ← HX.out]; exact h1
                          · exact HBF.out i (by omega)⟩
            case measure => simp [intOf]; omega
          · by_cases h2 : x = (q : Int)
            · have hin : inB zs len (q : Int) = true := in_yes j hml (by rw [← HX.out]; exact h2)
              have h2' : (x == (q : Int)) = true := beq_iff_eq.2 h2
              clear h2
              cases comp
              · have ST := hide (appTo_yes (l := l) haq (show holdsB zs len false (q : Int) = true by simp only [holdsB, hin]; rfl))
                clear hin
                generalize appTo zs len false a l q = L at *
                have hcl : 0 < L.length → wr.cell? ⟨gr, L.length - 1, none⟩ = some (.int .i64 (L.getD (L.length - 1) 0)) := fun h => HDS.out.cell _ (by omega)
                have hyl := fun h => HLS.out (L.length - 1) h
                generalize L.getD (L.length - 1) 0 = y at hcl hyl
                have hbs : 0 ≤ (wr.alloc (.cells #[.int .i64 (q : Int)] 3)).heap.size := Nat.zero_le _
                by_cases hz : 0 < L.length
                · have hcy := hcl hz
                  have hyq := hyl (by omega)
                  clear hcl hyl
                  go_wp2_with (at_builtin; refine wpList_append_lies _ rfl _ _ 23 rfl 0 3 i0 (.int .i64 0) 1 8 Try.underlying23 hi0 hz0 hz1 hz2 rfl (by decide) _ L.length (ints L) rfl (World.ownsRow.alloc HDS.out _) ⟨wr.heap.size, 0, none⟩ 1 1 [.int .i64 (q : Int)] rfl rfl (cell_one_new _ _ _) (by simp [Value.oneCell']) (by decide) (by unfold maxLen; omega) (by omega) (Nat.zero_le _) (wr.heap.size + 1) (by simp) ?_; intro g2 c2 w1 hown hgrow hat hlt2)
                  have HD2 := hide (dst_of hown)
                  have HB2 := hide ((HBT.out.alloc _).grown hgrow HGR.out)
                  have HG2 := hide (at_of HBT.out.size HGR.out hat)
                  clear hown hgrow hat hlt2
                  go_wp2
                  go_roundw
                  case rel => exact ⟨q + 1, j, g2, c2, by omega, by omega, by go_num, by omega, rfl, fun i hi' => by have := HBF.out i hi'; omega, by rw [ST.out, List.length_append]; rfl, by rw [ST.out]; exact HD2.out, HB2.out, HG2.out⟩
                  case measure => simp [intOf]; omega
                · clear hcl hyl
                  go_wp2_with (at_builtin; refine wpList_append_lies _ rfl _ _ 23 rfl 0 3 i0 (.int .i64 0) 1 8 Try.underlying23 hi0 hz0 hz1 hz2 rfl (by decide) _ L.length (ints L) rfl (World.ownsRow.alloc HDS.out _) ⟨wr.heap.size, 0, none⟩ 1 1 [.int .i64 (q : Int)] rfl rfl (cell_one_new _ _ _) (by simp [Value.oneCell']) (by decide) (by unfold maxLen; omega) (by omega) (Nat.zero_le _) (wr.heap.size + 1) (by simp) ?_; intro g2 c2 w1 hown hgrow hat hlt2)
                  have HD2 := hide (dst_of hown)
                  have HB2 := hide ((HBT.out.alloc _).grown hgrow HGR.out)
                  have HG2 := hide (at_of HBT.out.size HGR.out hat)
                  clear hown hgrow hat hlt2
                  go_wp2
                  go_roundw
                  case rel => exact ⟨q + 1, j, g2, c2, by omega, by omega, by go_num, by omega, rfl, fun i hi' => by have := HBF.out i hi'; omega, by rw [ST.out, List.length_append]; rfl, by rw [ST.out]; exact HD2.out, HB2.out, HG2.out⟩
                  case measure => simp [intOf]; omega
              · have ST := hide (appTo_no (l := l) haq (show holdsB zs len true (q : Int) = false by simp only [holdsB, hin]; rfl))
                clear hin
                go_wp2
                go_roundw
                case rel => exact ⟨q + 1, j, gr, cr, by omega, by omega, by go_num, by omega, rfl, fun i hi' => by have := HBF.out i hi'; omega, by rw [ST.out], by rw [ST.out]; exact HDS.out, HBT.out, HGR.out⟩
                case measure => simp [intOf]; omega
            · have hin : inB zs len (q : Int) = false := in_no j HA.out HBF.out (fun _ => by rw [← HX.out]; omega)
              have h2' : (x == (q : Int)) = false := beq_eq_false_iff_ne.2 h2
              clear h2
              cases comp
              · have ST := hide (appTo_no (l := l) haq (show holdsB zs len false (q : Int) = false by simp only [holdsB, hin]; rfl))
                clear hin
                go_wp2
                go_roundw
                case rel => exact ⟨q + 1, j, gr, cr, by omega, by omega, by go_num, by omega, rfl, fun i hi' => by have := HBF.out i hi'; omega, by rw [ST.out], by rw [ST.out]; exact HDS.out, HBT.out, HGR.out⟩
                case measure => simp [intOf]; omega
              · have ST := hide (appTo_yes (l := l) haq (show holdsB zs len true (q : Int) = true by simp only [holdsB, hin]; rfl))
                clear hin
                generalize appTo zs len true a l q = L at *
                have hcl : 0 < L.length → wr.cell? ⟨gr, L.length - 1, none⟩ = some (.int .i64 (L.getD (L.length - 1) 0)) := fun h => HDS.out.cell _ (by omega)
                have hyl := fun h => HLS.out (L.length - 1) h
                generalize L.getD (L.length - 1) 0 = y at hcl hyl
                have hbs : 0 ≤ (wr.alloc (.cells #[.int .i64 (q : Int)] 3)).heap.size := Nat.zero_le _
                by_cases hz : 0 < L.length
                · have hcy := hcl hz
                  have hyq := hyl (by omega)
                  clear hcl hyl
                  go_wp2_with (at_builtin; refine wpList_append_lies _ rfl _ _ 23 rfl 0 3 i0 (.int .i64 0) 1 8 Try.underlying23 hi0 hz0 hz1 hz2 rfl (by decide) _ L.length (ints L) rfl (World.ownsRow.alloc HDS.out _) ⟨wr.heap.size, 0, none⟩ 1 1 [.int .i64 (q : Int)] rfl rfl (cell_one_new _ _ _) (by simp [Value.oneCell']) (by decide) (by unfold maxLen; omega) (by omega) (Nat.zero_le _) (wr.heap.size + 1) (by simp) ?_; intro g2 c2 w1 hown hgrow hat hlt2)
                  have HD2 := hide (dst_of hown)
                  have HB2 := hide ((HBT.out.alloc _).grown hgrow HGR.out)
                  have HG2 := hide (at_of HBT.out.size HGR.out hat)
                  clear hown hgrow hat hlt2
                  go_wp2
                  go_roundw
                  case rel => exact ⟨q + 1, j, g2, c2, by omega, by omega, by go_num, by omega, rfl, fun i hi' => by have := HBF.out i hi'; omega, by rw [ST.out, List.length_append]; rfl, by rw [ST.out]; exact HD2.out, HB2.out, HG2.out⟩
                  case measure => simp [intOf]; omega
                · clear hcl hyl
                  go_wp2_with (at_builtin; refine wpList_append_lies _ rfl _ _ 23 rfl 0 3 i0 (.int .i64 0) 1 8 Try.underlying23 hi0 hz0 hz1 hz2 rfl (by decide) _ L.length (ints L) rfl (World.ownsRow.alloc HDS.out _) ⟨wr.heap.size, 0, none⟩ 1 1 [.int .i64 (q : Int)] rfl rfl (cell_one_new _ _ _) (by simp [Value.oneCell']) (by decide) (by unfold maxLen; omega) (by omega) (Nat.zero_le _) (wr.heap.size + 1) (by simp) ?_; intro g2 c2 w1 hown hgrow hat hlt2)
                  have HD2 := hide (dst_of hown)
                  have HB2 := hide ((HBT.out.alloc _).grown hgrow HGR.out)
                  have HG2 := hide (at_of HBT.out.size HGR.out hat)
                  clear hown hgrow hat hlt2
                  go_wp2
                  go_roundw
                  case rel => exact ⟨q + 1, j, g2, c2, by omega, by omega, by go_num, by omega, rfl, fun i hi' => by have := HBF.out i hi'; omega, by rw [ST.out, List.length_append]; rfl, by rw [ST.out]; exact HD2.out, HB2.out, HG2.out⟩
                  case measure => simp [intOf]; omega
        · have hin : inB zs len (q : Int) = false := in_no j HA.out HBF.out (fun h => absurd h hml)
          cases comp
          · have ST := hide (appTo_no (l := l) haq (show holdsB zs len false (q : Int) = false by simp only [holdsB, hin]; rfl))
            clear hin
            go_wp2
            go_roundw
            case rel => exact ⟨q + 1, j, gr, cr, by omega, by omega, by go_num, by omega, rfl, fun i hi' => by have := HBF.out i hi'; omega, by rw [ST.out], by rw [ST.out]; exact HDS.out, HBT.out, HGR.out⟩
            case measure => simp [intOf]; omega
          · have ST := hide (appTo_yes (l := l) haq (show holdsB zs len true (q : Int) = true by simp only [holdsB, hin]; rfl))
            clear hin
            generalize appTo zs len true a l q = L at *
            have hcl : 0 < L.length → wr.cell? ⟨gr, L.length - 1, none⟩ = some (.int .i64 (L.getD (L.length - 1) 0)) := fun h => HDS.out.cell _ (by omega)
            have hyl := fun h => HLS.out (L.length - 1) h
            generalize L.getD (L.length - 1) 0 = y at hcl hyl
            have hbs : 0 ≤ (wr.alloc (.cells #[.int .i64 (q : Int)] 3)).heap.size := Nat.zero_le _
            by_cases hz : 0 < L.length
            · have hcy := hcl hz
              have hyq := hyl (by omega)
              clear hcl hyl
              go_wp2_with (at_builtin; refine wpList_append_lies _ rfl _ _ 23 rfl 0 3 i0 (.int .i64 0) 1 8 Try.underlying23 hi0 hz0 hz1 hz2 rfl (by decide) _ L.length (ints L) rfl (World.ownsRow.alloc HDS.out _) ⟨wr.heap.size, 0, none⟩ 1 1 [.int .i64 (q : Int)] rfl rfl (cell_one_new _ _ _) (by simp [Value.oneCell']) (by decide) (by unfold maxLen; omega) (by omega) (Nat.zero_le _) (wr.heap.size + 1) (by simp) ?_; intro g2 c2 w1 hown hgrow hat hlt2)
              have HD2 := hide (dst_of hown)
              have HB2 := hide ((HBT.out.alloc _).grown hgrow HGR.out)
              have HG2 := hide (at_of HBT.out.size HGR.out hat)
              clear hown hgrow hat hlt2
              go_wp2
              go_roundw
              case rel => exact ⟨q + 1, j, g2, c2, by omega, by omega, by go_num, by omega, rfl, fun i hi' => by have := HBF.out i hi'; omega, by rw [ST.out, List.length_append]; rfl, by rw [ST.out]; exact HD2.out, HB2.out, HG2.out⟩
              case measure => simp [intOf]; omega
            · clear hcl hyl
              go_wp2_with (at_builtin; refine wpList_append_lies _ rfl _ _ 23 rfl 0 3 i0 (.int .i64 0) 1 8 Try.underlying23 hi0 hz0 hz1 hz2 rfl (by decide) _ L.length (ints L) rfl (World.ownsRow.alloc HDS.out _) ⟨wr.heap.size, 0, none⟩ 1 1 [.int .i64 (q : Int)] rfl rfl (cell_one_new _ _ _) (by simp [Value.oneCell']) (by decide) (by unfold maxLen; omega) (by omega) (Nat.zero_le _) (wr.heap.size + 1) (by simp) ?_; intro g2 c2 w1 hown hgrow hat hlt2)
              have HD2 := hide (dst_of hown)
              have HB2 := hide ((HBT.out.alloc _).grown hgrow HGR.out)
              have HG2 := hide (at_of HBT.out.size HGR.out hat)
              clear hown hgrow hat hlt2
              go_wp2
              go_roundw
              case rel => exact ⟨q + 1, j, g2, c2, by omega, by omega, by go_num, by omega, rfl, fun i hi' => by have := HBF.out i hi'; omega, by rw [ST.out, List.length_append]; rfl, by rw [ST.out]; exact HD2.out, HB2.out, HG2.out⟩
              case measure => simp [intOf]; omega
    · go_wp2
      go_ret2
      obtain rfl : hi = (q : Int) := by omega
      rw [Int.toNat_natCast]
      exact ⟨gr, cr, rfl, HDS.out, HBT.out, HGR.out⟩

end Go.Proofs.Qxb6615808a
