/-
  The walk of 'FnListingAndOutsideSplitThePlaces' (3), hasList = true.
-/
import Derived.Test.Qxb6615808aSplitPlain
import Derived.Test.Qxb6615808aListing
namespace Go.Proofs.Qxb6615808a
open Go.RowKit

set_option maxRecDepth 100000 in
set_option maxHeartbeats 4000000 in
theorem walk3t (a0 : Option Addr) (len0 cap0 : Nat) (a1 : Option Addr) (len1 cap1 : Nat) (zs : List Int) (w : World)
    (hm0 : len0 ≤ 9223372036854775807) (hm1 : len1 ≤ 9223372036854775807) (hs : Strs w a0 len0) (hn0 : a0 = none → len0 = 0) (h1 : Ats w a1 len1 zs) (hn1 : a1 = none → len1 = 0) :
    Calls Try.prog 3 #[.slice a0 len0 cap0, .slice a1 len1 cap1, .bool true] w fun e w' => e = .returned (.bool true) ∧ Below w.heap.size w w' := by
  have HS := hide hs
  have HN0 := hide hn0
  have H1 := hide h1
  have HN1 := hide hn1
  clear hs hn0 h1 hn1
  go_enter Try.func3, Try.ntmps3
  go_wp2_with fail
  refine (bytes7_any a0 len0 cap0 a1 len1 cap1 true _ hm0 hm1 HS.out).mono ?_
  rintro e w' ⟨⟨b, rfl⟩, hw⟩
  obtain rfl := hw.symm
  cases b
  · go_wp2
    go_ret
    exact ⟨rfl, Below.refl _ _⟩
  by_cases g0 : 4096 < len0
  · go_wp2
    go_ret
    exact ⟨rfl, Below.refl _ _⟩
  by_cases g1 : 4096 < len1
  · go_wp2
    go_ret
    exact ⟨rfl, Below.refl _ _⟩
  go_wp2_with fail
  refine (strBytes_any a0 len0 cap0 _ hm0 HS.out).mono ?_
  rintro e w' ⟨u, rfl, hu0, hu1, hw⟩
  obtain rfl := hw.symm
  by_cases g2 : 1048576 < u
  · go_wp2
    go_ret
    exact ⟨rfl, Below.refl _ _⟩
  by_cases g3 : (1048576 - u) / 8 < (len1 : Int)
  · go_wp2
    go_ret
    exact ⟨rfl, Below.refl _ _⟩
  go_wp2_with fail
  refine (distinct_any a0 len0 cap0 _ hm0 HS.out).mono ?_
  rintro e w' ⟨⟨b, rfl⟩, nq, rfl⟩
  cases b
  · go_wp2
    go_ret
    exact ⟨rfl, below_drewN (Below.refl _ _) _⟩
  go_wp2_with fail
  refine (asc_any a1 len1 cap1 zs 0 (len0 : Int) _ hm1 (show Ats (w.drewN nq) a1 len1 zs from H1.out)).mono ?_
  rintro e w' ⟨rfl, nr, rfl⟩
  cases hab : ascB zs len1 0 (len0 : Int)
  · go_wp2
    go_ret
    exact ⟨rfl, below_drewN (Below.refl _ _) _⟩
  have HAsc := hide (asc_iff.1 hab)
  clear hab
  have B1 : Hid (Below w.heap.size w (w.drewN (nq + nr))) := below_drewN (Below.refl _ _) _
  have S1 : Hid (Strs (w.drewN (nq + nr)) a0 len0) := HS.out
  have A1 : Hid (Ats (w.drewN (nq + nr)) a1 len1 zs) := H1.out
  clear HS H1
  go_wp2_with fail
  generalize w.drewN (nq + nr) = w1 at B1 S1 A1 ⊢
  -- the copies
  refine (cloneStrs_any a0 len0 cap0 w1 (by omega) HN0.out S1.out).mono ?_
  rintro e w2 ⟨ai, rfl, hb2⟩
  have A2 := hide (A1.out.below hb2 (Nat.le_refl _))
  have B2 := hide (B1.out.trans (hb2.mono B1.out.size))
  clear hb2 A1 B1 S1 HN0
  go_wp2_with fail
  refine (cloneInts_any a1 len1 cap1 zs w2 (by omega) HN1.out A2.out).mono ?_
  rintro e w3 ⟨c1, rfl, ho3, hb3⟩
  have O3 := hide ho3
  have B3 := hide (B2.out.trans (hb3.mono B2.out.size))
  clear ho3 hb3 A2 B2 HN1
  -- want
  obtain ⟨i0, hi0, hz0, hz1, hz2⟩ := info_parts Try.info4
  obtain ⟨i3, hi3, hy0, hy1, hy2⟩ := info_parts Try.info3
  go_wp2_with (at_make; refine wpList_make_blk _ rfl _ _ 30 rfl 4 i0 (.bool false) Try.underlying30 hi0 hz0 hz1 rfl _ _ _ _ len0 rfl rfl rfl rfl (by rw [hz2]; omega) (by omega) ?_; intro w4 hk4 hb4 hs4)
  rw [wantL_zero zs] at hk4
  have K4 := hide hk4
  have O4 := hide (O3.out.below hb4 (Nat.le_refl _))
  have AW := hide (fun k (h : w3.heap.size ≤ k) => O3.out.away (g := k) (.inr h))
  have ON := hide O3.out.none
  have B4 := hide (B3.out.trans (hb4.mono B3.out.size))
  have hs4' : w3.heap.size < w4.heap.size := by omega
  have hwb := B3.out.size
  clear hk4 hb4 hs4 O3 B3 hi0 hz0 hz1 hz2
  go_wp2
  go_loopw [10, 11] (fun cv iv wr => ∃ k : Nat, k ≤ len1 ∧ iv = .int .i64 (k : Int) ∧ cv = .int .i64 (k : Int) ∧ Blk wr w3.heap.size 4 (wantL zs len0 k) ∧ Only w3.heap.size w4 wr) (fun _ iv _ => len1 - (intOf iv).toNat)
  case atStart => exact ⟨0, Nat.zero_le _, rfl, rfl, K4.out, Only.refl _ _⟩
  case round =>
    obtain ⟨k, hk, rfl, rfl, hblk, honly⟩ := hrel
    have HBK := hide hblk
    have HO := hide honly
    clear hblk honly
    by_cases hlt : k < len1
    · obtain ⟨b, off, rfl, hcs⟩ := O4.out.ats (by omega)
      have ha := HAsc.out k hlt
      obtain ⟨m, hm⟩ : ∃ m : Nat, zs.getD k 0 = (m : Int) := ⟨(zs.getD k 0).toNat, by omega⟩
      have hmn : m < len0 := by have := ha.2.1; omega
      have hxc : wr.cell? ⟨b, off + k, none⟩ = some (.int .i64 (m : Int)) := by rw [HO.out.cell (p := ⟨b, off + k, none⟩) (show b ≠ w3.heap.size from AW.out _ (Nat.le_refl _) ⟨b, off, none⟩ rfl), hcs k hlt, hm]
      have hold : wr.cell? ⟨w3.heap.size, m, none⟩ = some (.bool (inB zs k (m : Int))) := by rw [HBK.out.cell, wantL_get _ _ _ _ hmn]
      have hfree := HBK.out.free m
      have HS := hide (HBK.out.set m (.bool true))
      rw [wantL_set zs len0 k m hm] at HS
      clear ha hm hcs
      generalize inB zs k (m : Int) = ob at hold
      go_wp2
      go_roundw
      case rel => exact ⟨k + 1, by omega, by go_num, by go_num, HS.out, HO.out.setCell _ _⟩
      case measure => simp [intOf]; omega
    · obtain rfl : len1 = k := by omega
      have K5 := hide HBK.out
      have A5 := hide (((But.refl w3.heap.size w4).only HO.out).ats O4.out.ats (AW.out _ (Nat.le_refl _)))
      have B5 := hide (B4.out.trans (HO.out.below hwb))
      have hs5 : w3.heap.size < wr.heap.size := by rw [HO.out.size]; exact hs4'
      obtain ⟨w5, rfl⟩ : ∃ w5 : World, w5 = wr := ⟨_, rfl⟩
      clear HBK HO K4 B4
      -- the organization
      go_wp2_with fail
      refine (newOrg_any _ _ _ _).mono ?_
      rintro e w6 ⟨rfl, hc6, hb6, hs6⟩
      have K6 := hide (K5.out.below hb6 hs5)
      have A6 := hide (A5.out.below hb6 (Nat.le_refl _))
      have B6 := hide (B5.out.trans (hb6.mono B5.out.size))
      have C6 := hide hc6
      clear hc6 hb6 K5 A5 B5
      go_wp2_with fail
      refine (noList_any _).mono ?_
      rintro e w' ⟨rfl, hw⟩
      obtain rfl := hw.symm
      go_wp2_with fail
      refine (cloneInts_any c1 len1 len1 zs w6 (by omega) ON.out A6.out).mono ?_
      rintro e w7 ⟨adL, rfl, ho7, hb7⟩
      have O7 := hide ho7
      have K7 := hide (K6.out.below hb7 (by omega))
      have C7 : Hid (w7.cell? ⟨w5.heap.size, 14, none⟩ = some (.slice ai len0 len0)) := by rw [hb7.cell (p := ⟨w5.heap.size, 14, none⟩) hs6]; exact C6.out
      have B7 := hide (B6.out.trans (hb7.mono B6.out.size))
      have h67 := hb7.size
      clear ho7 hb7 A6 C6 B6 K6
      go_wp2_with fail
      refine (newList_any _ _ _ _).mono ?_
      rintro e w8 ⟨rfl, hc8, hb8, hs8⟩
      have O8 := hide (O7.out.below hb8 (Nat.le_refl _))
      have K8 := hide (K7.out.below hb8 (by omega))
      have C8 : w8.cell? ⟨w5.heap.size, 14, none⟩ = some (.slice ai len0 len0) := by rw [hb8.cell (p := ⟨w5.heap.size, 14, none⟩) (show w5.heap.size < w7.heap.size by omega)]; exact C7.out
      have B8 := hide (B7.out.trans (hb8.mono B7.out.size))
      have CC := hide C8
      have CL := hide hc8
      clear C8 hc8 hb8 O7 C7 B7 K7
      go_wp2_with fail
      refine (zzListing_some w5.heap.size w7.heap.size adL len1 len1 ai len0 len0 w8 CC.out CL.out).mono ?_
      rintro e w9 ⟨rfl, hb9⟩
      have K9 := hide (K8.out.below hb9 (by omega))
      have A9 := hide ((O8.out.below hb9 (Nat.le_refl _)).ats)
      have W9 : Hid (∀ k, w9.heap.size ≤ k → Away k adL) := fun k hk => O8.out.away (.inr (by have := hb9.size; omega))
      have C9 : Hid (w9.cell? ⟨w5.heap.size, 14, none⟩ = some (.slice ai len0 len0)) := by rw [hb9.cell (p := ⟨w5.heap.size, 14, none⟩) (show w5.heap.size < w8.heap.size by omega)]; exact CC.out
      have B9 := hide (B8.out.trans (hb9.mono B8.out.size))
      have hs9 : w5.heap.size < w9.heap.size := by have := hb9.size; omega
      clear hb9 O8 CC CL B8 K8
      obtain ⟨ofL, hof⟩ : ∃ x : Option Addr, x = some ⟨w7.heap.size, 0, none⟩ := ⟨_, rfl⟩
      rw [← hof]
      clear hof
      obtain ⟨lenL, hlenL⟩ : ∃ x : Nat, x = len1 := ⟨_, rfl⟩
      have hlL : lenL ≤ 4096 := by omega
      have hwf1 : WF zs len0 ⟨0, len0, adL, lenL, lenL, ofL, false⟩ := ⟨by simp, by simp, by simp, hlL, by rw [hlenL]; exact HAsc.out⟩
      have A9L : Hid (Ats w9 adL lenL zs) := by rw [hlenL]; exact A9.out
      have KL : Hid (Blk w9 w3.heap.size 4 (wantL zs len0 lenL)) := by rw [hlenL]; exact K9.out
      have HWF := hide hwf1
      have HHL := hide (listing_held hwf1)
      clear hwf1
      have hn4 : len0 ≤ 4096 := by omega
      go_wp2_with (at_make; refine wpList_make_blk _ rfl _ _ 23 rfl 3 i3 (.int .i64 0) Try.underlying23 hi3 hy0 hy1 rfl _ _ _ _ len0 rfl rfl rfl rfl (by rw [hy2]; omega) (by omega) ?_; intro w10 hk10 hb10 hs10)
      rw [ints_replicate, World.size_alloc] at hk10
      rw [World.size_alloc] at hs10
      have z0 : w10.cell? ⟨w9.heap.size, 0, none⟩ = some (.int .i64 0) := by rw [hb10.cell (p := ⟨w9.heap.size, 0, none⟩) (by simp)]; simp
      have z1 : w10.cell? ⟨w9.heap.size, 1, none⟩ = some (.int .i64 (len0 : Int)) := by rw [hb10.cell (p := ⟨w9.heap.size, 1, none⟩) (by simp)]; simp
      have z2 : w10.cell? ⟨w9.heap.size, 2, none⟩ = some (.slice adL lenL lenL) := by rw [hb10.cell (p := ⟨w9.heap.size, 2, none⟩) (by simp)]; rw [hlenL]; simp
      have z3 : w10.cell? ⟨w9.heap.size, 3, none⟩ = some (.pointer ofL) := by rw [hb10.cell (p := ⟨w9.heap.size, 3, none⟩) (by simp)]; simp
      have z4 : w10.cell? ⟨w9.heap.size, 4, none⟩ = some (.bool false) := by rw [hb10.cell (p := ⟨w9.heap.size, 4, none⟩) (by simp)]; simp
      have M10 := hide hk10
      have K10 := hide ((KL.out.alloc _).below hb10 (by simp; omega))
      have A10 := hide ((A9L.out.below ((Below.refl _ _).alloc (Nat.le_refl _) _) (Nat.le_refl _)).below hb10 (Nat.le_refl _))
      have C10 : Hid (w10.cell? ⟨w5.heap.size, 14, none⟩ = some (.slice ai len0 len0)) := by
        rw [hb10.cell (p := ⟨w5.heap.size, 14, none⟩) (show w5.heap.size < (w9.alloc _).heap.size by simp; omega), World.cell?_alloc_lt w9 _ ⟨w5.heap.size, 14, none⟩ hs9]
        exact C9.out
      have B10 := hide ((B9.out.alloc B9.out.size _).trans (hb10.mono (by have := B9.out.size; simp; omega)))
      have hs10' : w9.heap.size + 1 < w10.heap.size := by omega
      have lt0 : ((lenL : Int) != (len1 : Int)) = false := by rw [hlenL]; simp
      have hf0 : From w10 w10.drew := ⟨(Below.refl _ _).drew⟩
      have hne : w9.heap.size ≠ w9.heap.size + 1 := by omega
      have hw9b := B9.out.size
      clear hk10 hb10 hs10 KL A9L C9 B9 hlenL HAsc
      go_region_held3 (fun w' => w'.cell? ⟨w9.heap.size, 0, none⟩ = some (.int .i64 0) ∧ w'.cell? ⟨w9.heap.size, 1, none⟩ = some (.int .i64 (len0 : Int)) ∧ w'.cell? ⟨w9.heap.size, 2, none⟩ = some (.slice adL lenL lenL) ∧ w'.cell? ⟨w9.heap.size, 3, none⟩ = some (.pointer ofL) ∧ w'.cell? ⟨w9.heap.size, 4, none⟩ = some (.bool false))
        (first | (exact keep5 (by assumption) (by assumption)) | (exact keep5o hne (by assumption) (by assumption)) | go_keep)
        (first | (go_at_call 18; refine (runLo_any _ _ _ _ _ _ _ _).mono ?_; rintro e w1 ⟨rfl, hb1⟩; have hf := From.step (by assumption) hb1) | (go_at_call 19; refine (runHi_any _ _ _ _ _ _ _ _).mono ?_; rintro e w1 ⟨rfl, hb1⟩; have hf := From.step (by assumption) hb1) | (go_at_call 20; refine (runListed_any _ _ _ _ _ _ _ _).mono ?_; rintro e w1 ⟨rfl, hb1⟩; have hf := From.step (by assumption) hb1) | (go_at_call 21; refine (runComp_any _ _ _ _ _ _ _ _).mono ?_; rintro e w1 ⟨rfl, hb1⟩; have hf := From.step (by assumption) hb1) | (go_at_call 17; refine (markOneF zs ⟨0, len0, adL, lenL, lenL, ofL, false⟩ len0 (w9.heap.size + 1) (List.replicate len0 0) w10 _ (by assumption) HWF.out hn4 A10.out (W9.out _ (by omega)) M10.out (by simp) (fun i hi => by simp [hi])).mono ?_; rintro e w1 ⟨rfl, hk17, ho17, hbt17⟩))
      rename_i hheld
      obtain ⟨y0, y1, y2, y3, y4⟩ := hheld
      have M11 := hide hk17
      have K11 := hide (hbt17.blk K10.out (by omega))
      have A11 := hide (hbt17.ats A10.out (W9.out _ (by omega)))
      have C11 : Hid (w1.cell? ⟨w5.heap.size, 14, none⟩ = some (.slice ai len0 len0)) := (World.cell?_of_block (w := w10) (a := ⟨w5.heap.size, 14, none⟩) (hbt17.block w5.heap.size (by omega) (by omega))).trans C10.out
      have B11 := hide (B10.out.trans (hbt17.below (B := w.heap.size) (by omega) (by omega)))
      have h1011 := hbt17.size
      have hhl := HHL.out
      have r1 : runLen 0 (len0 : Int) lenL false = (lenL : Int) := rfl
      clear hf hb1 hk17 ho17 hbt17 hf0 z0 z1 z2 z3 z4 M10 K10 A10 C10 B10
      obtain ⟨w11, rfl⟩ : ∃ w11 : World, w11 = w1 := ⟨_, rfl⟩
      go_wp2_with fail
      refine (runLen_any 0 (len0 : Int) adL lenL lenL ofL false _ (by omega) (by omega) (by omega) (by omega) hlL).mono ?_
      rintro e w12 ⟨rfl, hb12⟩
      obtain ⟨x0, x1, x2, x3, x4⟩ := keep5 hb12 ⟨y0, y1, y2, y3, y4⟩
      have M12 := hide (M11.out.below hb12 M11.out.lt)
      have K12 := hide (K11.out.below hb12 K11.out.lt)
      have A12 := hide (A11.out.below hb12 (Nat.le_refl _))
      have C12 : w12.cell? ⟨w5.heap.size, 14, none⟩ = some (.slice ai len0 len0) := by rw [hb12.cell (p := ⟨w5.heap.size, 14, none⟩) (show w5.heap.size < w11.heap.size by omega)]; exact C11.out
      have HC12 := hide C12
      have B12 := hide (B11.out.trans (hb12.mono B11.out.size))
      have h1112 := hb12.size
      clear C12 hb12 y0 y1 y2 y3 y4 M11 K11 A11 C11 B11
      go_wp2_with fail
      refine (zzOutside_any w5.heap.size ⟨0, len0, adL, lenL, lenL, ofL, false⟩ ai len0 len0 w12 HC12.out ⟨by simp, by simp, by simp, by simp; omega, hlL⟩ hn4).mono ?_
      rintro e w13 ⟨g, rest, rfl, hk13, hg13, hb13⟩
      have M13 := hide (M12.out.below hb13 M12.out.lt)
      have K13 := hide (K12.out.below hb13 K12.out.lt)
      have A13 := hide (A12.out.below hb13 (Nat.le_refl _))
      have B13 := hide (B12.out.trans (hb13.mono B12.out.size))
      have R13 := hide hk13
      have h1213 := hb13.size
      have hgl : g < w13.heap.size := hk13.lt
      clear hk13 hb13 x0 x1 x2 x3 x4 M12 K12 A12 B12 HC12 hhl r1 lt0
      -- the plain facts
      have hsum := fun p => outs_kept_sum HWF.out (p := p)
      have hgood := outs_good (g := w13.heap.size) HWF.out A13.out (W9.out _ (by omega))
      have hind : ∀ p, p < len0 → (markR zs ⟨0, len0, adL, lenL, lenL, ofL, false⟩ (List.replicate len0 0)).getD p 0 = ind zs ⟨0, len0, adL, lenL, lenL, ofL, false⟩ p := fun p hp => by
        rw [markR_get HWF.out _ _ (by simpa using hp), replicate_get _ _ hp, Int.zero_add]
      have hlr : (markR zs ⟨0, len0, adL, lenL, lenL, ofL, false⟩ (List.replicate len0 0)).length = len0 := by rw [markR_length]; simp
      have hli := fun p hp => listing_ind (zs := zs) (n := len0) (len := lenL) (cap := lenL) (ad := adL) (of := ofL) p hp
      generalize (markR zs ⟨0, len0, adL, lenL, lenL, ofL, false⟩ (List.replicate len0 0)) = LR at M13 hind hlr
      generalize ind zs ⟨0, len0, adL, lenL, lenL, ofL, false⟩ = IR at hsum hind hli
      generalize kept (outs ⟨0, len0, adL, lenL, lenL, ofL, false⟩ len0) = xs at R13 hsum hgood ⊢
      have HSUM := hide hsum
      have HG := hide hgood
      have HIND := hide hind
      have HLR := hide hlr
      have HLI := hide hli
      have hxl := hgood.short
      clear hsum hgood hind hlr hli HWF HHL A13 W9
      go_wp2_with (at_make; refine wpList_make_blk _ rfl _ _ 23 rfl 3 i3 (.int .i64 0) Try.underlying23 hi3 hy0 hy1 rfl _ _ _ _ len0 rfl rfl rfl rfl (by rw [hy2]; omega) (by omega) ?_; intro w14 hk14 hb14 hs14)
      rw [ints_replicate] at hk14
      have K14 := hide (K13.out.below hb14 K13.out.lt)
      have L14 := hide (M13.out.below hb14 M13.out.lt)
      have R14 := hide (R13.out.below hb14 hgl)
      have M14 := hide hk14
      have B14 := hide (B13.out.trans (hb14.mono B13.out.size))
      have G14 : Hid (Good zs len0 w14 w13.heap.size xs) := ⟨HG.out.short, HG.out.chain, fun x hx => ⟨(HG.out.each x hx).1, (HG.out.each x hx).2.1, (HG.out.each x hx).2.2.1.below hb14 (Nat.le_refl _), (HG.out.each x hx).2.2.2⟩⟩
      have hs14' : w13.heap.size < w14.heap.size := by omega
      have hwb13 := B13.out.size
      clear hk14 hb14 hs14 K13 M13 R13 B13 HG
      go_loopw [20, 21] (fun pv iv wr => ∃ (k : Nat) (pr : Int), k ≤ xs.length ∧ iv = .int .i64 (k : Int) ∧ pv = .int .i64 pr ∧ Chain pr (xs.drop k) ∧ Blk wr w13.heap.size 3 (ints (markAll zs (xs.take k) (List.replicate len0 0))) ∧ But w13.heap.size w14 wr) (fun _ iv _ => xs.length - (intOf iv).toNat)
      case atStart => exact ⟨0, 0, Nat.zero_le _, rfl, rfl, G14.out.chain, M14.out, But.refl _ _⟩
      case round =>
        obtain ⟨k, pr, hk, rfl, rfl, hch, hblk, hbut⟩ := hrel
        have HCH := hide hch
        have HBK := hide hblk
        have HBT := hide hbut
        clear hch hblk hbut
        by_cases hlt : k < xs.length
        · obtain ⟨x, hx⟩ : ∃ x, xs[k]? = some x := ⟨xs[k], List.getElem?_eq_getElem hlt⟩
          obtain ⟨c0, c1', c2', c3, c4⟩ := flat_cells' (HBT.out.blk R14.out (by omega)) hx
          have HX := hide hx
          have hmem := List.mem_of_getElem? hx
          clear hx
          obtain ⟨xwf, xv, xats, xaw⟩ := G14.out.each x hmem
          have xok : 0 ≤ x.lo ∧ x.lo ≤ 4096 ∧ 0 ≤ x.hi ∧ x.hi ≤ 4096 ∧ x.len ≤ 4096 := by
            obtain ⟨q0, q1, q2, q3, _⟩ := xwf
            exact ⟨q0, by omega, by omega, by omega, q3⟩
          have XW := hide xwf
          have XV := hide xv
          have XA := hide (HBT.out.ats xats xaw)
          have XY := hide xaw
          clear xwf xv xats xaw hmem
          have hcd := chain_drop xs k x pr HX.out HCH.out
          have HCD := hide hcd.2
          have hpr := hcd.1
          have hll : (markAll zs (xs.take k) (List.replicate len0 0)).length = len0 := by rw [markAll_length]; simp
          have HLL := hide hll
          have HBN := hide (G14.out.bound k)
          have hf0 : From wr (wr.alloc (.cells #[.int .i64 x.lo, .int .i64 x.hi, .slice x.ad x.len x.cap, .pointer x.of, .bool x.comp] 37)).drew := ⟨((Below.refl _ _).alloc (Nat.le_refl _) _).drew⟩
          have hne : wr.heap.size ≠ w13.heap.size := by have := HBT.out.size; omega
          obtain ⟨o0, o1, o2, o3, o4⟩ := xok
          clear hcd hll
          go_wp2_with fail
          go_region_held3 (fun w' => w'.cell? ⟨wr.heap.size, 0, none⟩ = some (.int .i64 x.lo) ∧ w'.cell? ⟨wr.heap.size, 1, none⟩ = some (.int .i64 x.hi) ∧ w'.cell? ⟨wr.heap.size, 2, none⟩ = some (.slice x.ad x.len x.cap) ∧ w'.cell? ⟨wr.heap.size, 3, none⟩ = some (.pointer x.of) ∧ w'.cell? ⟨wr.heap.size, 4, none⟩ = some (.bool x.comp))
            (first | (exact keep5 (by assumption) (by assumption)) | (exact keep5o hne (by assumption) (by assumption)) | go_keep)
            (first | (go_at_call 18; refine (runLo_any _ _ _ _ _ _ _ _).mono ?_; rintro e w1 ⟨rfl, hb1⟩; have hf := From.step (by assumption) hb1) | (go_at_call 19; refine (runHi_any _ _ _ _ _ _ _ _).mono ?_; rintro e w1 ⟨rfl, hb1⟩; have hf := From.step (by assumption) hb1) | (go_at_call 20; refine (runListed_any _ _ _ _ _ _ _ _).mono ?_; rintro e w1 ⟨rfl, hb1⟩; have hf := From.step (by assumption) hb1) | (go_at_call 21; refine (runComp_any _ _ _ _ _ _ _ _).mono ?_; rintro e w1 ⟨rfl, hb1⟩; have hf := From.step (by assumption) hb1) | (go_at_call 22; refine (runLen_any _ _ _ _ _ _ _ _ o0 o1 o2 o3 o4).mono ?_; rintro e w1 ⟨rfl, hb1⟩; have hf := From.step (by assumption) hb1) | (go_at_call 24; refine (markRunF zs x pr len0 w13.heap.size _ wr _ (by assumption) XW.out XV.out hn4 XA.out XY.out HBK.out HLL.out HBN.out hpr).mono ?_; rintro e w1 ⟨rfl, hk24, ho24, hbt24⟩))
          have HK24 := hide hk24
          have HBT2 := hide (HBT.out.trans hbt24)
          clear hk24 ho24 hbt24 hf hb1 c0 c1' c2' c3 c4 hf0
          go_wp2
          go_roundw
          case rel => exact ⟨k + 1, x.hi, by omega, by go_num, rfl, HCD.out, by rw [markAll_snoc zs xs k x _ HX.out]; exact HK24.out, HBT2.out⟩
          case measure => simp [intOf]; omega
        · obtain rfl : k = xs.length := by omega
          have hO := HBK.out
          rw [List.take_length] at hO
          have OA := hide hO
          have KA := hide (HBT.out.blk K14.out (by omega))
          have LA := hide (HBT.out.blk L14.out (by omega))
          have BA := hide (B14.out.trans (HBT.out.below (B := w.heap.size) (by omega) (by omega)))
          obtain ⟨wB, rfl⟩ : ∃ wB : World, wB = wr := ⟨_, rfl⟩
          clear hO HCH HBK HBT
          go_wp2
          go_loop [25] (fun pv => ∃ p : Nat, p ≤ len0 ∧ pv = .int .i64 (p : Int)) (fun pv => len0 - (intOf pv).toNat)
          case atStart => exact ⟨0, Nat.zero_le _, rfl⟩
          case round =>
            obtain ⟨p, hp, rfl⟩ := hrel
            by_cases hpl : p < len0
            · have eO : (markAll zs xs (List.replicate len0 0)).getD p 0 = 1 - IR p := by
                rw [markAll_get xs _ p (fun x hx => (G14.out.each x hx).1) (by simpa using hpl), replicate_get _ _ hpl, HSUM.out p hpl]
                omega
              have e1 : wB.cell? ⟨w13.heap.size, p, none⟩ = some (.int .i64 (1 - IR p)) := by rw [OA.out.cell, ints_get _ _ (by rw [markAll_length]; simpa using hpl), eO]
              have e2 : wB.cell? ⟨w9.heap.size + 1, p, none⟩ = some (.int .i64 (IR p)) := by rw [LA.out.cell, ints_get _ _ (by rw [HLR.out]; exact hpl), HIND.out p hpl]
              have e3 : wB.cell? ⟨w3.heap.size, p, none⟩ = some (.bool (inB zs lenL (p : Int))) := by rw [KA.out.cell, wantL_get _ _ _ _ hpl]
              have hI := HLI.out p hpl
              clear eO
              cases hb : inB zs lenL (p : Int)
              · rw [hb] at e3 hI
                rw [hI] at e1 e2
                simp only [Bool.false_eq_true, if_false] at e1 e2
                clear hI hb
                go_wp2
                go_round
                case rel => exact ⟨p + 1, by omega, by go_num⟩
                case measure => simp [intOf]; omega
              · rw [hb] at e3 hI
                rw [hI] at e1 e2
                simp only [if_true] at e1 e2
                clear hI hb
                go_wp2
                go_round
                case rel => exact ⟨p + 1, by omega, by go_num⟩
                case measure => simp [intOf]; omega
            · go_wp2
              go_ret
              exact ⟨rfl, BA.out⟩
end Go.Proofs.Qxb6615808a

