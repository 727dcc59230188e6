/-
  The walk of 'FnByKeyPopOfJoinedIsPopOfTail' (6).
-/
import Derived.Test.Qxb6615810aKeys
namespace Go.Proofs.Qxb6615810a
open Go.RowKit

theorem ats_cells {w : World} {ad : Option Addr} {len : Nat} {zs : List Int} (h : Ats w ad len zs) : ∀ x, ad = some x → ∀ j u, (ints (firstN zs len))[j]? = some u → w.cell? (x.add j) = some u := by
  intro x hx j u hu
  have hj : j < len := by
    have := (List.getElem?_eq_some_iff.1 hu).1
    rw [ints_length, firstN_length] at this
    exact this
  obtain ⟨b, off, e, hc⟩ := h (by omega)
  rw [hx] at e
  cases e
  rw [ints_get _ _ (by rw [firstN_length]; exact hj), firstN_get _ _ _ hj] at hu
  cases hu
  rw [add_lit]
  exact hc j hj
theorem ints_one (l : List Int) : ∀ u ∈ ints l, Value.oneCell' u = true := by
  intro u hu
  simp [ints] at hu
  obtain ⟨x, _, rfl⟩ := hu
  rfl
theorem But.grownNone {g : Nat} {w a b : World} (h : But g w a) (hg : a.grownBy b none) : But g w b :=
  ⟨hg.os.trans h.os, hg.tape.trans h.tape, hg.output.trans h.output, Nat.le_trans h.size hg.size, fun k hk hne => (hg.block k (Nat.lt_of_lt_of_le hk h.size) (by simp)).trans (h.block k hk hne)⟩
theorem But.grownSome {g : Nat} {w a b : World} (h : But g w a) (hg : a.grownBy b (some g)) : But g w b :=
  ⟨hg.os.trans h.os, hg.tape.trans h.tape, hg.output.trans h.output, Nat.le_trans h.size hg.size, fun k hk hne => (hg.block k (Nat.lt_of_lt_of_le hk h.size) (by simpa using hne)).trans (h.block k hk hne)⟩

/-- Cell i of block g is number i of the list. -/
def Cells (w : World) (g : Nat) (n : Nat) (l : List Int) : Prop := g < w.heap.size ∧ ∀ i, i < n → w.cell? ⟨g, i, none⟩ = some (.int .i64 (l.getD i 0))
theorem Cells.below {w w' : World} {g n : Nat} {l : List Int} (h : Cells w g n l) (hb : Below w.heap.size w w') : Cells w' g n l :=
  ⟨by have := hb.size; have := h.1; omega, fun i hi => by rw [hb.cell (p := ⟨g, i, none⟩) h.1]; exact h.2 i hi⟩
theorem Cells.only {w w' : World} {g k n : Nat} {l : List Int} (h : Cells w g n l) (hb : Only k w w') (hne : g ≠ k) : Cells w' g n l :=
  ⟨by rw [hb.size]; exact h.1, fun i hi => by rw [hb.cell (p := ⟨g, i, none⟩) hne]; exact h.2 i hi⟩
theorem Ats.only {w w' : World} {k len : Nat} {ad : Option Addr} {zs : List Int} (h : Ats w ad len zs) (hb : Only k w w') (hne : Away k ad) : Ats w' ad len zs := ((But.refl k w).only hb).ats h hne

theorem joined_cells {w : World} {g la lb : Nat} {za zb : List Int} (h : w.ownsRow 0 3 1 (.slice (some ⟨g, 0, none⟩) (la + lb) (la + lb)) (la + lb) (ints (firstN za la) ++ ints (firstN zb lb))) : Cells w g (la + lb) (firstN za la ++ firstN zb lb) := by
  refine ⟨(World.ownsRow.lt h g rfl).2, fun i hi => ?_⟩
  rw [World.ownsRow.cellAt h i (by omega)]
  have e : ints (firstN za la) ++ ints (firstN zb lb) = ints (firstN za la ++ firstN zb lb) := by simp [ints]
  rw [e, ints_get _ _ (by rw [List.length_append, firstN_length, firstN_length]; exact hi)]
theorem joined_left (za zb : List Int) (la lb i : Nat) (h : i < la) : (firstN za la ++ firstN zb lb).getD i 0 = za.getD i 0 := by
  rw [List.getD_eq_getElem?_getD, List.getElem?_append_left (by rw [firstN_length]; exact h), ← List.getD_eq_getElem?_getD, firstN_get _ _ _ h]
theorem joined_right (za zb : List Int) (la lb i : Nat) (h : i < lb) : (firstN za la ++ firstN zb lb).getD (la + i) 0 = zb.getD i 0 := by
  rw [List.getD_eq_getElem?_getD, List.getElem?_append_right (by rw [firstN_length]; omega), firstN_length, Nat.add_sub_cancel_left, ← List.getD_eq_getElem?_getD, firstN_get _ _ _ h]

set_option maxRecDepth 100000 in
set_option maxHeartbeats 2000000 in
theorem walk6 (a : Option Addr) (la ca : Nat) (za : List Int) (b : Option Addr) (lb cb : Nat) (zb : List Int) (w : World) (hma : la ≤ 9223372036854775807) (hna : a = none → la = 0) (ha : Ats w a la za) (hmb : lb ≤ 9223372036854775807) (hnb : b = none → lb = 0) (hb : Ats w b lb zb) :
    Calls Try.prog 6 #[.slice a la ca, .slice b lb cb] w fun e w' => e = .returned (.bool true) ∧ Below w.heap.size w w' := by
  have HNA := hide hna
  have HA := hide ha
  have HNB := hide hnb
  have HB := hide hb
  clear hna ha hnb hb
  go_enter Try.func6, Try.ntmps6
  go_wp2_with fail
  refine (bytes20_any a la ca b lb cb _ hma hmb).mono ?_
  rintro e w' ⟨⟨bb, rfl⟩, hw⟩
  obtain rfl := hw.symm
  cases bb
  · go_wp2
    go_ret
    exact ⟨rfl, Below.refl _ _⟩
  by_cases g0 : 65536 < la
  · go_wp2
    go_ret
    exact ⟨rfl, Below.refl _ _⟩
  by_cases g1 : 65536 < lb
  · go_wp2
    go_ret
    exact ⟨rfl, Below.refl _ _⟩
  by_cases g2 : 0 < lb
  rotate_left
  · have hz : ((lb : Int) == 0) = true := beq_iff_eq.2 (by omega)
    go_wp2
    go_ret
    exact ⟨rfl, Below.refl _ _⟩
  go_wp2_with fail
  refine (clone_any a la ca za w (by omega) HNA.out HA.out).mono ?_
  rintro e w1 ⟨c1, rfl, ho1, hb1⟩
  have O1 := hide ho1
  have A1 := hide (HB.out.below hb1 (Nat.le_refl _))
  have B1 := hide hb1
  clear ho1 hb1 HNA HA HB
  go_wp2_with fail
  refine (clone_any b lb cb zb w1 (by omega) HNB.out A1.out).mono ?_
  rintro e w2 ⟨c2, rfl, ho2, hb2⟩
  have O2 := hide ho2
  have P2 := hide (O1.out.below hb2 (Nat.le_refl _))
  have B2 := hide (B1.out.trans (hb2.mono B1.out.size))
  clear ho2 hb2 O1 B1 A1 HNB
  have hwb := B2.out.size
  obtain ⟨i0, hi0, hz0, hz1, hz2⟩ := info_parts Try.info3
  have AW1 := hide (fun k (h : w2.heap.size ≤ k) => P2.out.away (g := k) (.inr h))
  have AW2 := hide (fun k (h : w2.heap.size ≤ k) => O2.out.away (g := k) (.inr h))
  have N1 : c1 = none → la = 0 ∧ la = 0 := fun h => ⟨P2.out.nil h, P2.out.nil h⟩
  have N2 : c2 = none → lb = 0 ∧ lb = 0 := fun h => ⟨O2.out.nil h, O2.out.nil h⟩
  have HN1 := hide N1
  have HN2 := hide N2
  clear N1 N2
  have tok1 : True := trivial
  have hla : (ints (firstN za la)).length = la * 1 := by rw [ints_length, firstN_length, Nat.mul_one]
  have hlb : (ints (firstN zb lb)).length = lb * 1 := by rw [ints_length, firstN_length, Nat.mul_one]
  have HLA := hide hla
  have HLB := hide hlb
  clear hla hlb
  go_wp2_with (first
    | (at_make; refine wpList_make_own _ rfl _ _ 24 rfl 0 3 i0 (.int .i64 0) 1 Try.underlying24 hi0 hz0 hz1 _ _ _ (la + lb) rfl rfl (by omega) (by rw [hz2]; omega) (by unfold maxLen; omega) (Nat.zero_le _) ?_; intro w3 ho3 hg3; have BT3 := (But.refl w2.heap.size w2).grownNone hg3)
    | (at_builtin; have _t := tok1; refine wpList_append_fits_any _ rfl (.tmp 39) (.tmp 40) 24 rfl 0 3 i0 1 Try.underlying24 hi0 hz1 w2.heap.size 0 (la + lb) [] rfl ho3 c1 la la (ints (firstN za la)) rfl HLA.out HN1.out (ats_cells (BT3.ats P2.out.ats (AW1.out _ (Nat.le_refl _)))) (ints_one _) (by omega) ?_; intro w4 ho4 hg4; have BT4 := BT3.grownSome hg4; simp only [Nat.zero_add, List.nil_append] at ho4; clear tok1)
    | (at_builtin; refine wpList_append_fits_any _ rfl (.tmp 42) (.tmp 43) 24 rfl 0 3 i0 1 Try.underlying24 hi0 hz1 w2.heap.size la (la + lb) (ints (firstN za la)) rfl ho4 c2 lb lb (ints (firstN zb lb)) rfl HLB.out HN2.out (ats_cells (BT4.ats O2.out.ats (AW2.out _ (Nat.le_refl _)))) (ints_one _) (Nat.le_refl _) ?_; intro w5 ho5 hg5; have BT5 := BT4.grownSome hg5))
  have J5 := hide (joined_cells ho5)
  have A5 := hide (BT5.ats P2.out.ats (AW1.out _ (Nat.le_refl _)))
  have T5 := hide (BT5.ats O2.out.ats (AW2.out _ (Nat.le_refl _)))
  have B5 := hide (B2.out.trans (BT5.below (B := w.heap.size) hwb hwb))
  have N2 := hide O2.out.nil
  have hs5 := BT5.size
  have hj5 := J5.out.1
  clear ho3 hg3 BT3 ho4 hg4 BT4 ho5 hg5 BT5 O2 P2 B2 hi0 hz0 hz1 hz2
  refine (newKey_any _ _ _ w5).mono ?_
  rintro e w6 ⟨rfl, hc6, hf6, hb6, hs6⟩
  have J6 := hide (J5.out.below hb6)
  have A6 := hide (A5.out.below hb6 (Nat.le_refl _))
  have T6 := hide (T5.out.below hb6 (Nat.le_refl _))
  have B6 := hide (B5.out.trans (hb6.mono B5.out.size))
  rw [show la + lb = la + (lb - 1) + 1 by omega] at hc6
  have hx6 := J6.out.2 (la + (lb - 1)) (by omega)
  obtain ⟨x, hx⟩ : ∃ x, x = zb.getD (lb - 1) 0 := ⟨_, rfl⟩
  rw [joined_right _ _ _ _ _ (by omega), ← hx] at hx6
  have HX := hide hx
  clear hx
  have CP := hide (zzPop_any w5.heap.size w2.heap.size (la + (lb - 1)) (la + (lb - 1) + 1) _ w6 hc6 hf6 hx6 (Nat.le_refl _) (by omega))
  rw [show la + (lb - 1) + 1 = la + lb by omega] at CP
  clear hc6 hf6 hb6 hx6 J5 A5 T5 B5
  go_wp2_with fail
  refine CP.out.mono ?_
  rintro e w7 ⟨rfl, hc7, _, ho7⟩
  have J7 := hide (J6.out.only ho7 (by omega))
  have A7 := hide (A6.out.only ho7 (AW1.out _ (by omega)))
  have T7 := hide (T6.out.only ho7 (AW2.out _ (by omega)))
  have B7 := hide (B6.out.trans (ho7.below (by omega)))
  have C7 := hide hc7
  have hs7 := ho7.size
  clear hc7 ho7 CP J6 A6 T6 B6
  -- the second heap
  go_wp2_with fail
  refine (clone_any c2 lb lb zb w7 (by omega) N2.out T7.out).mono ?_
  rintro e w8 ⟨c3, rfl, ho8, hb8⟩
  rcases ho8 with ⟨_, h0⟩ | ⟨g3, l3, hg3, rfl, hbl, hll, hlz⟩
  · omega
  have R8 := hide (show Cells w8 g3 lb zb from ⟨hbl.lt, fun i hi => by rw [hbl.cell, ints_get _ _ (by omega), hlz i hi]⟩)
  have J8 := hide (J7.out.below hb8)
  have A8 := hide (A7.out.below hb8 (Nat.le_refl _))
  have T8 := hide (T7.out.below hb8 (Nat.le_refl _))
  have C8 : Hid (w8.cell? ⟨w5.heap.size, 0, none⟩ = some (.slice (some ⟨w2.heap.size, 0, none⟩) (la + (lb - 1)) (la + lb))) := by rw [hb8.cell (p := ⟨w5.heap.size, 0, none⟩) (show w5.heap.size < w7.heap.size by omega)]; exact C7.out
  have B8 := hide (B7.out.trans (hb8.mono B7.out.size))
  have hs8 := hb8.size
  have hr8 := R8.out.1
  clear hb8 hbl hll hlz J7 A7 T7 C7 B7
  go_wp2_with fail
  refine (newKey_any _ _ _ w8).mono ?_
  rintro e w9 ⟨rfl, hc9, hf9, hb9, hs9⟩
  have R9 := hide (R8.out.below hb9)
  have J9 := hide (J8.out.below hb9)
  have A9 := hide (A8.out.below hb9 (Nat.le_refl _))
  have T9 := hide (T8.out.below hb9 (Nat.le_refl _))
  have C9 : Hid (w9.cell? ⟨w5.heap.size, 0, none⟩ = some (.slice (some ⟨w2.heap.size, 0, none⟩) (la + (lb - 1)) (la + lb))) := by rw [hb9.cell (p := ⟨w5.heap.size, 0, none⟩) (show w5.heap.size < w8.heap.size by omega)]; exact C8.out
  have B9 := hide (B8.out.trans (hb9.mono B8.out.size))
  rw [show (Value.slice (some ⟨g3, 0, none⟩) lb lb) = .slice (some ⟨g3, 0, none⟩) (lb - 1 + 1) lb by rw [show lb - 1 + 1 = lb by omega]] at hc9
  have hx9 := R9.out.2 (lb - 1) (by omega)
  rw [← HX.out] at hx9
  have CQ := hide (zzPop_any w8.heap.size g3 (lb - 1) lb _ w9 hc9 hf9 hx9 (by omega) (by omega))
  clear hc9 hf9 hb9 hx9 R8 J8 A8 T8 C8 B8
  go_wp2_with fail
  refine CQ.out.mono ?_
  rintro e w10 ⟨rfl, hc10, _, ho10⟩
  have R10 := hide (R9.out.only ho10 (by omega))
  have J10 := hide (J9.out.only ho10 (by omega))
  have A10 := hide (A9.out.only ho10 (AW1.out _ (by omega)))
  have T10 := hide (T9.out.only ho10 (AW2.out _ (by omega)))
  have c10 : w10.cell? ⟨w5.heap.size, 0, none⟩ = some (.slice (some ⟨w2.heap.size, 0, none⟩) (la + (lb - 1)) (la + lb)) := by rw [ho10.cell (p := ⟨w5.heap.size, 0, none⟩) (show w5.heap.size ≠ w8.heap.size by omega)]; exact C9.out
  have B10 := hide (B9.out.trans (ho10.below (by omega)))
  have CN1 := hide (nodes_any w5.heap.size _ _ _ w10 c10)
  have CN2 := hide (nodes_any w8.heap.size _ _ _ w10 hc10)
  obtain ⟨b2, off2, rfl, hcs⟩ := T10.out g2
  have hlast := hcs (lb - 1) (by omega)
  rw [← HX.out] at hlast
  have HCS := hide hcs
  clear hc10 ho10 CQ R9 J9 A9 T9 C9 B9 c10 hcs
  have t1 : (x != x) = false := by simp
  have t2 : (((lb - 1 : Nat) : Int) != (lb : Int) - 1) = false := by simp; omega
  have t3 : (((la + (lb - 1) : Nat) : Int) != (la : Int) + ((lb - 1 : Nat) : Int)) = false := by simp
  go_wp2_with fail
  refine CN1.out.mono ?_
  rintro e w' ⟨rfl, hw⟩
  obtain rfl := hw.symm
  go_wp2_with fail
  refine CN2.out.mono ?_
  rintro e w' ⟨rfl, hw⟩
  obtain rfl := hw.symm
  clear CN1 CN2 hlast
  obtain ⟨m, hm⟩ : ∃ m, m = lb - 1 := ⟨_, rfl⟩
  rw [← hm] at t2 t3 ⊢
  have hmlb : m < lb := by omega
  have hmlb2 : lb ≤ m + 1 := by omega
  clear hm
  go_wp2
  clear t1 t2 t3
  go_loopw [103] (fun iv wr => ∃ p nd : Nat, p ≤ m ∧ iv = .int .i64 (p : Int) ∧ wr = w10.drewN nd) (fun iv _ => m - (intOf iv).toNat)
  case atStart => exact ⟨0, 0, Nat.zero_le _, rfl, rfl⟩
  case round =>
    obtain ⟨p, nd, hp, rfl, hwr⟩ := hrel
    subst hwr
    by_cases hpm : p < m
    · obtain ⟨d, hd⟩ : ∃ d, d = zb.getD p 0 := ⟨_, rfl⟩
      have e1 : w10.cell? ⟨g3, p, none⟩ = some (.int .i64 d) := by rw [hd]; exact R10.out.2 p (by omega)
      have e2 : w10.cell? ⟨b2, off2 + p, none⟩ = some (.int .i64 d) := by rw [hd]; exact HCS.out p (by omega)
      have e3 : w10.cell? ⟨w2.heap.size, la + p, none⟩ = some (.int .i64 d) := by rw [hd, ← joined_right za zb la lb p (by omega)]; exact J10.out.2 (la + p) (by omega)
      have t1 : (d != d) = false := by simp
      have b1 : (p : Int) < (m : Int) := by omega
      have b2' : (p : Int) < (lb : Int) := by omega
      have b3 : (la : Int) + (p : Int) < (la : Int) + (m : Int) := by omega
      clear hd
      go_wp2
      go_quiet (fail)
      go_wp2
      go_roundw
      case rel => exact ⟨p + 1, _, by omega, by go_num, rfl⟩
      case measure => simp [intOf]; omega
    · obtain ⟨wo, hwo⟩ : ∃ wo : World, wo = w10.drewN nd := ⟨_, rfl⟩
      rw [← hwo]
      have J11 : Hid (Cells wo w2.heap.size (la + lb) (firstN za la ++ firstN zb lb)) := by rw [hwo]; exact J10.out
      have A11 : Hid (Ats wo c1 la za) := by rw [hwo]; exact A10.out
      have B11 : Hid (Below w.heap.size w wo) := by rw [hwo]; exact below_drewN B10.out _
      clear hwo
      go_wp2
      go_loopw [132] (fun iv wr => ∃ p nd : Nat, p ≤ la ∧ iv = .int .i64 (p : Int) ∧ wr = wo.drewN nd) (fun iv _ => la - (intOf iv).toNat)
      case atStart => exact ⟨0, 0, Nat.zero_le _, rfl, rfl⟩
      case round =>
        clear hp hpm
        obtain ⟨p, nd, hp, rfl, hwr⟩ := hrel
        subst hwr
        by_cases hpl : p < la
        · obtain ⟨b4, off4, rfl, hcs4⟩ := A11.out (by omega)
          obtain ⟨d, hd⟩ : ∃ d, d = za.getD p 0 := ⟨_, rfl⟩
          have e1 : wo.cell? ⟨w2.heap.size, p, none⟩ = some (.int .i64 d) := by rw [hd, ← joined_left za zb la lb p (by omega)]; exact J11.out.2 p (by omega)
          have e2 : wo.cell? ⟨b4, off4 + p, none⟩ = some (.int .i64 d) := by rw [hd]; exact hcs4 p hpl
          have t1 : (d != d) = false := by simp
          have b1 : (p : Int) < (la : Int) := by omega
          have b3 : (p : Int) < (la : Int) + (m : Int) := by omega
          clear hd hcs4
          go_wp2
          go_quiet (fail)
          go_wp2
          go_roundw
          case rel => exact ⟨p + 1, _, by omega, by go_num, rfl⟩
          case measure => simp [intOf]; omega
        · go_wp2
          go_ret
          exact ⟨rfl, below_drewN B11.out _⟩

end Go.Proofs.Qxb6615810a
