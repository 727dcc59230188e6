/-
  The walk of 'FnOutsideOfARunAndOfItsInverse' (6).
-/
import Derived.Test.Qxb6615808aRuns
namespace Go.Proofs.Qxb6615808a
open Go.RowKit

set_option maxRecDepth 100000 in
set_option maxHeartbeats 2000000 in
theorem walk6 (a0 : Option Addr) (len0 cap0 : Nat) (lo hi : Int) (a1 : Option Addr) (len1 cap1 : Nat) (zs : List Int) (comp : Bool) (w : World)
    (hm0 : len0 ≤ 9223372036854775807) (hm1 : len1 ≤ 9223372036854775807) (hs : Strs w a0 len0) (hn0 : a0 = none → len0 = 0) (h1 : Ats w a1 len1 zs) (hn1 : a1 = none → len1 = 0) :
    Calls Try.prog 6 #[.slice a0 len0 cap0, .int .i64 lo, .int .i64 hi, .slice a1 len1 cap1, .bool comp] w fun e w' => e = .returned (.bool true) ∧ Below w.heap.size w w' := by
  have HS := hide hs
  have HN0 := hide hn0
  have H1 := hide h1
  have HN1 := hide hn1
  clear hs hn0 h1 hn1
  go_enter Try.func6, Try.ntmps6
  go_wp2_with fail
  refine (bytes29_any a0 len0 cap0 lo hi a1 len1 cap1 comp _ hm0 hm1 HS.out).mono ?_
  rintro e w' ⟨⟨b, rfl⟩, hw⟩
  obtain rfl := hw.symm
  cases b
  · go_wp2
    go_ret
    exact ⟨rfl, Below.refl _ _⟩
  by_cases g0 : 4096 < len0
  · go_wp2
    go_ret
    exact ⟨rfl, Below.refl _ _⟩
  by_cases g1 : 4096 < len1
  · go_wp2
    go_ret
    exact ⟨rfl, Below.refl _ _⟩
  go_wp2_with fail
  refine (strBytes_any a0 len0 cap0 _ hm0 HS.out).mono ?_
  rintro e w' ⟨u, rfl, hu0, hu1, hw⟩
  obtain rfl := hw.symm
  by_cases g2 : 1048576 < u
  · go_wp2
    go_ret
    exact ⟨rfl, Below.refl _ _⟩
  by_cases g3 : (1048576 - u) / 8 < (len1 : Int)
  · go_wp2
    go_ret
    exact ⟨rfl, Below.refl _ _⟩
  go_wp2_with fail
  refine (distinct_any a0 len0 cap0 _ hm0 HS.out).mono ?_
  rintro e w' ⟨⟨b, rfl⟩, nq, rfl⟩
  cases b
  · go_wp2
    go_ret
    exact ⟨rfl, below_drewN (Below.refl _ _) _⟩
  by_cases g4 : lo < 0
  · go_wp2
    go_ret
    exact ⟨rfl, below_drewN (Below.refl _ _) _⟩
  by_cases g5 : hi < lo
  · go_wp2
    go_ret
    exact ⟨rfl, below_drewN (Below.refl _ _) _⟩
  by_cases g6 : (len0 : Int) < hi
  · go_wp2
    go_ret
    exact ⟨rfl, below_drewN (Below.refl _ _) _⟩
  go_wp2_with fail
  refine (asc_any a1 len1 cap1 zs lo hi _ hm1 (show Ats (w.drewN nq) a1 len1 zs from H1.out)).mono ?_
  rintro e w' ⟨rfl, nr, rfl⟩
  cases hab : ascB zs len1 lo hi
  · go_wp2
    go_ret
    exact ⟨rfl, below_drewN (Below.refl _ _) _⟩
  have HAsc := hide (asc_iff.1 hab)
  clear hab
  have B1 : Hid (Below w.heap.size w (w.drewN (nq + nr))) := below_drewN (Below.refl _ _) _
  have S1 : Hid (Strs (w.drewN (nq + nr)) a0 len0) := HS.out
  have A1 : Hid (Ats (w.drewN (nq + nr)) a1 len1 zs) := H1.out
  clear HS H1
  go_wp2_with fail
  generalize w.drewN (nq + nr) = w1 at B1 S1 A1 ⊢
  -- the copies
  refine (cloneStrs_any a0 len0 cap0 w1 (by omega) HN0.out S1.out).mono ?_
  rintro e w2 ⟨ai, rfl, hb2⟩
  have A2 := hide (A1.out.below hb2 (Nat.le_refl _))
  have B2 := hide (B1.out.trans (hb2.mono B1.out.size))
  clear hb2 A1 B1 S1 HN0
  go_wp2_with fail
  refine (cloneInts_any a1 len1 cap1 zs w2 (by omega) HN1.out A2.out).mono ?_
  rintro e w3 ⟨c1, rfl, ho3, hb3⟩
  have O3 := hide ho3
  have B3 := hide (B2.out.trans (hb3.mono B2.out.size))
  clear ho3 hb3 A2 B2 HN1
  -- inR
  obtain ⟨i0, hi0, hz0, hz1, hz2⟩ := info_parts Try.info3
  go_wp2_with (at_make; refine wpList_make_blk _ rfl _ _ 23 rfl 3 i0 (.int .i64 0) Try.underlying23 hi0 hz0 hz1 rfl _ _ _ _ len0 rfl rfl rfl rfl (by rw [hz2]; omega) (by omega) ?_; intro w4 hk4 hb4 hs4)
  have hsz4 : w3.heap.size < w4.heap.size := by omega
  rw [ints_replicate] at hk4
  have O4 := O3.out.below hb4 (Nat.le_refl _)
  have hwf : WF zs len0 ⟨lo, hi, c1, len1, len1, none, comp⟩ := ⟨by simpa using g4, by simpa using g5, by simpa using g6, by simp; omega, HAsc.out⟩
  have HWF := hide hwf
  have C17 := hide (markOne zs ⟨lo, hi, c1, len1, len1, none, comp⟩ len0 w3.heap.size (List.replicate len0 0) w4 hwf (by omega) O4.ats (O3.out.away (.inr (Nat.le_refl _))) hk4 (by simp) (fun i hi => by simp [hi]))
  have B4 := hide (B3.out.trans (hb4.mono B3.out.size))
  have HO4 := hide O4
  have h34 := B3.out.size
  clear hk4 hb4 hs4 O4 hwf B3
  refine C17.out.mono ?_
  rintro e w5 ⟨rfl, hk5, ho5⟩
  have K5 := hide hk5
  have A5 := hide (((But.refl w3.heap.size w4).only ho5).ats HO4.out.ats (O3.out.away (.inr (Nat.le_refl _))))
  have B5 := hide (B4.out.trans (ho5.below h34))
  have hsz5 : w3.heap.size < w5.heap.size := by rw [ho5.size]; exact hsz4
  clear hk5 ho5 HO4 B4 C17 hsz4
  -- the organization
  go_wp2_with fail
  refine (newOrg_any _ _ _ _).mono ?_
  rintro e w6 ⟨rfl, hc6, hb6, hs6⟩
  have K6 := hide (K5.out.below hb6 hsz5)
  have A6 := hide (A5.out.below hb6 (Nat.le_refl _))
  have B6 := hide (B5.out.trans (hb6.mono B5.out.size))
  have C6 := hide hc6
  have h56 := hb6.size
  clear hc6 hb6 K5 A5 B5
  -- the second copy, the run
  go_wp2_with fail
  refine (cloneInts_any c1 len1 len1 zs w6 (by omega) O3.out.none A6.out).mono ?_
  rintro e w7 ⟨c2, rfl, ho7, hb7⟩
  have K7 := hide (K6.out.below hb7 (by omega))
  have C7 : Hid (w7.cell? ⟨w5.heap.size, 14, none⟩ = some (.slice ai len0 len0)) := by rw [hb7.cell (p := ⟨w5.heap.size, 14, none⟩) hs6]; exact C6.out
  have B7 := hide (B6.out.trans (hb7.mono B6.out.size))
  have O7 := hide ho7
  have h67 := hb7.size
  clear ho7 hb7 K6 C6 B6 A6 O3
  go_wp2_with fail
  refine (newRun_any _ _ _ _ _ _ _).mono ?_
  rintro e w8 ⟨of, rfl, hb8⟩
  have K8 := hide (K7.out.below hb8 (by omega))
  have C8 : Hid (w8.cell? ⟨w5.heap.size, 14, none⟩ = some (.slice ai len0 len0)) := by rw [hb8.cell (p := ⟨w5.heap.size, 14, none⟩) (show w5.heap.size < w7.heap.size by omega)]; exact C7.out
  have B8 := hide (B7.out.trans (hb8.mono B7.out.size))
  have O8 := hide (O7.out.below hb8 (Nat.le_refl _))
  have h78 := hb8.size
  clear hb8 K7 C7 B7 O7
  go_wp2_with fail
  have C9 : ∀ x, (w8.alloc x).cell? ⟨w5.heap.size, 14, none⟩ = some (.slice ai len0 len0) := fun x => by rw [World.cell?_alloc_lt w8 x ⟨w5.heap.size, 14, none⟩ (show w5.heap.size < w8.heap.size by omega)]; exact C8.out
  have hok : Rn.ok ⟨lo, hi, c2, len1, len1, of, comp⟩ := ⟨by simp; omega, by simp; omega, by simp; omega, by simp; omega, by simp; omega⟩
  refine (zzOutside_any w5.heap.size ⟨lo, hi, c2, len1, len1, of, comp⟩ ai len0 len0 _ (C9 _) hok (by omega)).mono ?_
  clear C9 hok
  rintro e w10 ⟨g, rest, rfl, hk10, hg10, hb10⟩
  have K10 := hide ((K8.out.alloc _).below hb10 (by simp; omega))
  have O10 := hide ((O8.out.below ((Below.refl _ _).alloc (Nat.le_refl _) _) (Nat.le_refl _)).below hb10 (Nat.le_refl _))
  have B10 := hide ((B8.out.alloc B8.out.size _).trans (hb10.mono (by have := B8.out.size; simp; omega)))
  have R10 := hide hk10
  have hg10' : w8.heap.size < g := by simp at hg10; omega
  have hgl : g < w10.heap.size := hk10.lt
  have hb10' := hb10.size
  simp at hb10'
  have q0 : w10.cell? ⟨w8.heap.size, 0, none⟩ = some (.int .i64 lo) := by rw [hb10.cell (p := ⟨w8.heap.size, 0, none⟩) (by simp)]; simp
  have q1 : w10.cell? ⟨w8.heap.size, 1, none⟩ = some (.int .i64 hi) := by rw [hb10.cell (p := ⟨w8.heap.size, 1, none⟩) (by simp)]; simp
  have q2 : w10.cell? ⟨w8.heap.size, 2, none⟩ = some (.slice c2 len1 len1) := by rw [hb10.cell (p := ⟨w8.heap.size, 2, none⟩) (by simp)]; simp
  have q3 : w10.cell? ⟨w8.heap.size, 3, none⟩ = some (.pointer of) := by rw [hb10.cell (p := ⟨w8.heap.size, 3, none⟩) (by simp)]; simp
  have q4 : w10.cell? ⟨w8.heap.size, 4, none⟩ = some (.bool comp) := by rw [hb10.cell (p := ⟨w8.heap.size, 4, none⟩) (by simp)]; simp
  have C10 : Hid (w10.cell? ⟨w5.heap.size, 14, none⟩ = some (.slice ai len0 len0)) := by rw [hb10.cell (p := ⟨w5.heap.size, 14, none⟩) (show w5.heap.size < (w8.alloc _).heap.size by simp; omega), World.cell?_alloc_lt w8 _ ⟨w5.heap.size, 14, none⟩ (show w5.heap.size < w8.heap.size by omega)]; exact C8.out
  clear hk10 hb10 hg10 K8 O8 B8 C8
  -- the inverse, and what is outside it
  go_wp2_with fail
  refine (zzInverse_any _ _ _ _ _ _ _ _).mono ?_
  rintro e w12 ⟨rfl, hb12⟩
  have K12 := hide (K10.out.below hb12 (by omega))
  have R12 := hide (R10.out.below hb12 hgl)
  have O12 := hide (O10.out.below hb12 (Nat.le_refl _))
  have B12 := hide (B10.out.trans (hb12.mono B10.out.size))
  have C12 : w12.cell? ⟨w5.heap.size, 14, none⟩ = some (.slice ai len0 len0) := by rw [hb12.cell (p := ⟨w5.heap.size, 14, none⟩) (show w5.heap.size < w10.heap.size by omega)]; exact C10.out
  have h1012 := hb12.size
  clear hb12 K10 R10 O10 B10 C10 q0 q1 q2 q3 q4
  go_wp2_with fail
  have hok2 : Rn.ok ⟨lo, hi, c2, len1, len1, of, !comp⟩ := ⟨by simp; omega, by simp; omega, by simp; omega, by simp; omega, by simp; omega⟩
  refine (zzOutside_any w5.heap.size ⟨lo, hi, c2, len1, len1, of, !comp⟩ ai len0 len0 _ C12 hok2 (by omega)).mono ?_
  clear C12 hok2
  rintro e w13 ⟨g', rest', rfl, hk13, hg13, hb13⟩
  have K13 := hide (K12.out.below hb13 (by omega))
  have R13 := hide (R12.out.below hb13 (by omega))
  have O13 := hide (O12.out.below hb13 (Nat.le_refl _))
  have B13 := hide (B12.out.trans (hb13.mono B12.out.size))
  have S13 := hide hk13
  have hgl' : g' < w13.heap.size := hk13.lt
  have h1213 := hb13.size
  clear hk13 hb13 K12 R12 O12 B12
  -- the plain facts
  have hwf2 : WF zs len0 ⟨lo, hi, c2, len1, len1, of, comp⟩ := HWF.out
  have hwf3 : WF zs len0 ⟨lo, hi, c2, len1, len1, of, !comp⟩ := HWF.out
  have hsum := fun p => outs_kept_sum hwf2 (p := p)
  have hsum' := fun p => outs_kept_sum hwf3 (p := p)
  have hgood := outs_good (g := w13.heap.size) hwf2 O13.out.ats (O13.out.away (.inr (Nat.le_refl _)))
  have hgood' := fun k => outs_good (g := k) hwf3 O13.out.ats
  have haw := fun k h => O13.out.away (g := k) (.inr h)
  have hind : ∀ p, p < len0 → (markR zs ⟨lo, hi, c1, len1, len1, none, comp⟩ (List.replicate len0 0)).getD p 0 = ind zs ⟨lo, hi, c2, len1, len1, of, comp⟩ p := fun p hp => by
    rw [markR_get HWF.out _ _ (by simpa using hp), replicate_get _ _ hp, Int.zero_add]
    rfl
  have hlr : (markR zs ⟨lo, hi, c1, len1, len1, none, comp⟩ (List.replicate len0 0)).length = len0 := by rw [markR_length]; simp
  have hin := fun p => ind_inv zs ⟨lo, hi, c2, len1, len1, of, comp⟩ p
  have hout := fun p => ind_out zs ⟨lo, hi, c2, len1, len1, of, comp⟩ p
  have hout' := fun p => ind_out zs ⟨lo, hi, c2, len1, len1, of, !comp⟩ p
  have h01 := fun p => ind_01 zs ⟨lo, hi, c2, len1, len1, of, comp⟩ p
  dsimp only at hin hout hout'
  generalize (markR zs ⟨lo, hi, c1, len1, len1, none, comp⟩ (List.replicate len0 0)) = LR at K13 hind hlr
  generalize ind zs ⟨lo, hi, c2, len1, len1, of, comp⟩ = IR at hsum hind h01 hin hout
  generalize ind zs ⟨lo, hi, c2, len1, len1, of, !comp⟩ = IV at hsum' hin hout'
  generalize kept (outs ⟨lo, hi, c2, len1, len1, of, comp⟩ len0) = xs at R13 hsum hgood ⊢
  generalize kept (outs ⟨lo, hi, c2, len1, len1, of, !comp⟩ len0) = ys at S13 hsum' hgood' ⊢
  have HSUM := hide hsum
  have HSUM' := hide hsum'
  have HG := hide hgood
  have HG' := hide hgood'
  have HAW := hide haw
  have HIND := hide hind
  have HLR := hide hlr
  have H01 := hide h01
  have HIN := hide hin
  have HOUT := hide hout
  have HOUT' := hide hout'
  have hxl := hgood.short
  have hyl := (hgood' w13.heap.size (haw _ (Nat.le_refl _))).short
  clear hsum hsum' hgood hgood' haw hind hlr h01 hwf2 hwf3 hin hout hout' HWF O13 HAsc
  go_wp2_with (at_make; refine wpList_make_blk _ rfl _ _ 23 rfl 3 i0 (.int .i64 0) Try.underlying23 hi0 hz0 hz1 rfl _ _ _ _ len0 rfl rfl rfl rfl (by rw [hz2]; omega) (by omega) ?_; intro w14 hk14 hb14 hs14)
  rw [ints_replicate] at hk14
  have K14 := hide (K13.out.below hb14 (by omega))
  have R14 := hide (R13.out.below hb14 (by omega))
  have S14 := hide (S13.out.below hb14 hgl')
  have M14 := hide hk14
  have B14 := hide (B13.out.trans (hb14.mono B13.out.size))
  have G14 : Hid (Good zs len0 w14 w13.heap.size xs) := ⟨HG.out.short, HG.out.chain, fun x hx => ⟨(HG.out.each x hx).1, (HG.out.each x hx).2.1, (HG.out.each x hx).2.2.1.below hb14 (Nat.le_refl _), (HG.out.each x hx).2.2.2⟩⟩
  have FB : Hid (Below w13.heap.size w13 w14) := hb14
  have hs14' : w13.heap.size < w14.heap.size := by omega
  have hwb := B13.out.size
  have hn4 : len0 ≤ 4096 := by omega
  clear hk14 hb14 hs14 K13 R13 S13 B13 HG
  go_loopw [21, 22] (fun pv iv wr => ∃ (k : Nat) (pr : Int), k ≤ xs.length ∧ iv = .int .i64 (k : Int) ∧ pv = .int .i64 pr ∧ Chain pr (xs.drop k) ∧ Blk wr w13.heap.size 3 (ints (markAll zs (xs.take k) (List.replicate len0 0))) ∧ But w13.heap.size w14 wr) (fun _ iv _ => xs.length - (intOf iv).toNat)
  case atStart => exact ⟨0, 0, Nat.zero_le _, rfl, rfl, G14.out.chain, M14.out, But.refl _ _⟩
  case round =>
    obtain ⟨k, pr, hk, rfl, rfl, hch, hblk, hbut⟩ := hrel
    have HCH := hide hch
    have HBK := hide hblk
    have HBT := hide hbut
    clear hch hblk hbut
    by_cases hlt : k < xs.length
    · obtain ⟨x, hx⟩ : ∃ x, xs[k]? = some x := ⟨xs[k], List.getElem?_eq_getElem hlt⟩
      obtain ⟨c0, c1', c2', c3, c4⟩ := flat_cells' (HBT.out.blk R14.out (by omega)) hx
      have HX := hide hx
      have hmem := List.mem_of_getElem? hx
      clear hx
      obtain ⟨xwf, xv, xats, xaw⟩ := G14.out.each x hmem
      have xok : 0 ≤ x.lo ∧ x.lo ≤ 4096 ∧ 0 ≤ x.hi ∧ x.hi ≤ 4096 ∧ x.len ≤ 4096 := by
        obtain ⟨q0, q1, q2, q3, _⟩ := xwf
        exact ⟨q0, by omega, by omega, by omega, q3⟩
      have XW := hide xwf
      have XV := hide xv
      have XA := hide (HBT.out.ats xats xaw)
      have XY := hide xaw
      clear xwf xv xats xaw hmem
      have hcd := chain_drop xs k x pr HX.out HCH.out
      have HCD := hide hcd.2
      have hpr := hcd.1
      have hll : (markAll zs (xs.take k) (List.replicate len0 0)).length = len0 := by rw [markAll_length]; simp
      have HLL := hide hll
      have HBN := hide (G14.out.bound k)
      have hf0 : From wr (wr.alloc (.cells #[.int .i64 x.lo, .int .i64 x.hi, .slice x.ad x.len x.cap, .pointer x.of, .bool x.comp] 37)).drew := ⟨((Below.refl _ _).alloc (Nat.le_refl _) _).drew⟩
      have hne : wr.heap.size ≠ w13.heap.size := by have := HBT.out.size; omega
      obtain ⟨o0, o1, o2, o3, o4⟩ := xok
      clear hcd hll
      go_wp2_with fail
      go_region_held3 (fun w' => w'.cell? ⟨wr.heap.size, 0, none⟩ = some (.int .i64 x.lo) ∧ w'.cell? ⟨wr.heap.size, 1, none⟩ = some (.int .i64 x.hi) ∧ w'.cell? ⟨wr.heap.size, 2, none⟩ = some (.slice x.ad x.len x.cap) ∧ w'.cell? ⟨wr.heap.size, 3, none⟩ = some (.pointer x.of) ∧ w'.cell? ⟨wr.heap.size, 4, none⟩ = some (.bool x.comp))
        (first | (exact keep5 (by assumption) (by assumption)) | (exact keep5o hne (by assumption) (by assumption)) | go_keep)
        (first | (go_at_call 18; refine (runLo_any _ _ _ _ _ _ _ _).mono ?_; rintro e w1 ⟨rfl, hb1⟩; have hf := From.step (by assumption) hb1) | (go_at_call 19; refine (runHi_any _ _ _ _ _ _ _ _).mono ?_; rintro e w1 ⟨rfl, hb1⟩; have hf := From.step (by assumption) hb1) | (go_at_call 20; refine (runListed_any _ _ _ _ _ _ _ _).mono ?_; rintro e w1 ⟨rfl, hb1⟩; have hf := From.step (by assumption) hb1) | (go_at_call 21; refine (runComp_any _ _ _ _ _ _ _ _).mono ?_; rintro e w1 ⟨rfl, hb1⟩; have hf := From.step (by assumption) hb1) | (go_at_call 22; refine (runLen_any _ _ _ _ _ _ _ _ o0 o1 o2 o3 o4).mono ?_; rintro e w1 ⟨rfl, hb1⟩; have hf := From.step (by assumption) hb1) | (go_at_call 24; refine (markRunF zs x pr len0 w13.heap.size _ wr _ (by assumption) XW.out XV.out hn4 XA.out XY.out HBK.out HLL.out HBN.out hpr).mono ?_; rintro e w1 ⟨rfl, hk24, ho24, hbt24⟩))
      have HK24 := hide hk24
      have HBT2 := hide (HBT.out.trans hbt24)
      clear hk24 ho24 hbt24 hf hb1 c0 c1' c2' c3 c4 hf0
      go_wp2
      go_roundw
      case rel => exact ⟨k + 1, x.hi, by omega, by go_num, rfl, HCD.out, by rw [markAll_snoc zs xs k x _ HX.out]; exact HK24.out, HBT2.out⟩
      case measure => simp [intOf]; omega
    · obtain rfl : k = xs.length := by omega
      have hO := HBK.out
      rw [List.take_length] at hO
      have KA := hide (HBT.out.blk K14.out (show w3.heap.size ≠ w13.heap.size by omega))
      have SA := hide (HBT.out.blk S14.out (show g' ≠ w13.heap.size by omega))
      have LA := hide hO
      have BA := hide (B14.out.trans (HBT.out.below (B := w.heap.size) (by omega) (by omega)))
      obtain ⟨wA, rfl⟩ : ∃ wA : World, wA = wr := ⟨_, rfl⟩
      have hszA := HBT.out.size
      have GA : Hid (Good zs len0 wA wA.heap.size ys) := by
        have h1 := HG'.out wA.heap.size (HAW.out _ (by omega))
        have h2 := HG'.out w13.heap.size (HAW.out _ (Nat.le_refl _))
        exact ⟨h1.short, h1.chain, fun x hx => ⟨(h1.each x hx).1, (h1.each x hx).2.1, HBT.out.ats ((h1.each x hx).2.2.1.below FB.out (Nat.le_refl _)) (h2.each x hx).2.2.2, (h1.each x hx).2.2.2⟩⟩
      clear hO HCH HBK HG' HAW
      go_wp2_with (at_make; refine wpList_make_blk _ rfl _ _ 23 rfl 3 i0 (.int .i64 0) Try.underlying23 hi0 hz0 hz1 rfl _ _ _ _ len0 rfl rfl rfl rfl (by rw [hz2]; omega) (by omega) ?_; intro w15 hk15 hb15 hs15)
      rw [ints_replicate] at hk15
      have K15 := hide (KA.out.below hb15 (by omega))
      have L15 := hide (LA.out.below hb15 LA.out.lt)
      have S15 := hide (SA.out.below hb15 SA.out.lt)
      have M15 := hide hk15
      have B15 := hide (BA.out.trans (hb15.mono BA.out.size))
      have G15 : Hid (Good zs len0 w15 wA.heap.size ys) := ⟨GA.out.short, GA.out.chain, fun x hx => ⟨(GA.out.each x hx).1, (GA.out.each x hx).2.1, (GA.out.each x hx).2.2.1.below hb15 (Nat.le_refl _), (GA.out.each x hx).2.2.2⟩⟩
      have hs15' : wA.heap.size < w15.heap.size := by omega
      have hga : g' < wA.heap.size := SA.out.lt
      clear hk15 hb15 hs15 KA LA SA BA GA
      go_loopw [21, 27] (fun pv iv wr => ∃ (k : Nat) (pr : Int), k ≤ ys.length ∧ iv = .int .i64 (k : Int) ∧ pv = .int .i64 pr ∧ Chain pr (ys.drop k) ∧ Blk wr wA.heap.size 3 (ints (markAll zs (ys.take k) (List.replicate len0 0))) ∧ But wA.heap.size w15 wr) (fun _ iv _ => ys.length - (intOf iv).toNat)
      case atStart => exact ⟨0, 0, Nat.zero_le _, rfl, rfl, G15.out.chain, M15.out, But.refl _ _⟩
      case round =>
        clear HBT hk hlt
        obtain ⟨k, pr, hk, rfl, rfl, hch, hblk, hbut⟩ := hrel
        have HCH := hide hch
        have HBK := hide hblk
        have HBT := hide hbut
        clear hch hblk hbut
        by_cases hlt : k < ys.length
        · obtain ⟨x, hx⟩ : ∃ x, ys[k]? = some x := ⟨ys[k], List.getElem?_eq_getElem hlt⟩
          obtain ⟨c0, c1', c2', c3, c4⟩ := flat_cells' (HBT.out.blk S15.out (by omega)) hx
          have HX := hide hx
          have hmem := List.mem_of_getElem? hx
          clear hx
          obtain ⟨xwf, xv, xats, xaw⟩ := G15.out.each x hmem
          have xok : 0 ≤ x.lo ∧ x.lo ≤ 4096 ∧ 0 ≤ x.hi ∧ x.hi ≤ 4096 ∧ x.len ≤ 4096 := by
            obtain ⟨q0, q1, q2, q3, _⟩ := xwf
            exact ⟨q0, by omega, by omega, by omega, q3⟩
          have XW := hide xwf
          have XV := hide xv
          have XA := hide (HBT.out.ats xats xaw)
          have XY := hide xaw
          clear xwf xv xats xaw hmem
          have hcd := chain_drop ys k x pr HX.out HCH.out
          have HCD := hide hcd.2
          have hpr := hcd.1
          have hll : (markAll zs (ys.take k) (List.replicate len0 0)).length = len0 := by rw [markAll_length]; simp
          have HLL := hide hll
          have HBN := hide (G15.out.bound k)
          have hf0 : From wr (wr.alloc (.cells #[.int .i64 x.lo, .int .i64 x.hi, .slice x.ad x.len x.cap, .pointer x.of, .bool x.comp] 37)).drew := ⟨((Below.refl _ _).alloc (Nat.le_refl _) _).drew⟩
          have hne : wr.heap.size ≠ wA.heap.size := by have := HBT.out.size; omega
          obtain ⟨o0, o1, o2, o3, o4⟩ := xok
          clear hcd hll
          go_wp2_with fail
          go_region_held3 (fun w' => w'.cell? ⟨wr.heap.size, 0, none⟩ = some (.int .i64 x.lo) ∧ w'.cell? ⟨wr.heap.size, 1, none⟩ = some (.int .i64 x.hi) ∧ w'.cell? ⟨wr.heap.size, 2, none⟩ = some (.slice x.ad x.len x.cap) ∧ w'.cell? ⟨wr.heap.size, 3, none⟩ = some (.pointer x.of) ∧ w'.cell? ⟨wr.heap.size, 4, none⟩ = some (.bool x.comp))
            (first | (exact keep5 (by assumption) (by assumption)) | (exact keep5o hne (by assumption) (by assumption)) | go_keep)
            (first | (go_at_call 18; refine (runLo_any _ _ _ _ _ _ _ _).mono ?_; rintro e w1 ⟨rfl, hb1⟩; have hf := From.step (by assumption) hb1) | (go_at_call 19; refine (runHi_any _ _ _ _ _ _ _ _).mono ?_; rintro e w1 ⟨rfl, hb1⟩; have hf := From.step (by assumption) hb1) | (go_at_call 20; refine (runListed_any _ _ _ _ _ _ _ _).mono ?_; rintro e w1 ⟨rfl, hb1⟩; have hf := From.step (by assumption) hb1) | (go_at_call 21; refine (runComp_any _ _ _ _ _ _ _ _).mono ?_; rintro e w1 ⟨rfl, hb1⟩; have hf := From.step (by assumption) hb1) | (go_at_call 22; refine (runLen_any _ _ _ _ _ _ _ _ o0 o1 o2 o3 o4).mono ?_; rintro e w1 ⟨rfl, hb1⟩; have hf := From.step (by assumption) hb1) | (go_at_call 24; refine (markRunF zs x pr len0 wA.heap.size _ wr _ (by assumption) XW.out XV.out hn4 XA.out XY.out HBK.out HLL.out HBN.out hpr).mono ?_; rintro e w1 ⟨rfl, hk24, ho24, hbt24⟩))
          have HK24 := hide hk24
          have HBT2 := hide (HBT.out.trans hbt24)
          clear hk24 ho24 hbt24 hf hb1 c0 c1' c2' c3 c4 hf0
          go_wp2
          go_roundw
          case rel => exact ⟨k + 1, x.hi, by omega, by go_num, rfl, HCD.out, by rw [markAll_snoc zs ys k x _ HX.out]; exact HK24.out, HBT2.out⟩
          case measure => simp [intOf]; omega
        · obtain rfl : k = ys.length := by omega
          have hO := HBK.out
          rw [List.take_length] at hO
          have KB := hide (HBT.out.blk K15.out (show w3.heap.size ≠ wA.heap.size by omega))
          have LB := hide (HBT.out.blk L15.out (show w13.heap.size ≠ wA.heap.size by omega))
          have MB := hide hO
          have BB := hide (B15.out.trans (HBT.out.below (B := w.heap.size) (by omega) (by omega)))
          obtain ⟨wB, rfl⟩ : ∃ wB : World, wB = wr := ⟨_, rfl⟩
          clear hO HCH HBK HBT
          go_wp2
          go_loopw [31] (fun pv wq => ∃ p nd : Nat, p ≤ len0 ∧ pv = .int .i64 (p : Int) ∧ wq = wB.drewN nd) (fun pv _ => len0 - (intOf pv).toNat)
          case atStart => exact ⟨0, 0, Nat.zero_le _, rfl, rfl⟩
          case round =>
            obtain ⟨p, nd, hp, rfl, hwr⟩ := hrel
            subst hwr
            by_cases hpl : p < len0
            · have eA : (markAll zs xs (List.replicate len0 0)).getD p 0 = 1 - IR p := by
                rw [markAll_get xs _ p (fun x hx => (G14.out.each x hx).1) (by simpa using hpl), replicate_get _ _ hpl, HSUM.out p hpl]
                omega
              have eB : (markAll zs ys (List.replicate len0 0)).getD p 0 = 1 - IV p := by
                rw [markAll_get ys _ p (fun x hx => (G15.out.each x hx).1) (by simpa using hpl), replicate_get _ _ hpl, HSUM'.out p hpl]
                omega
              have e1 : wB.cell? ⟨w13.heap.size, p, none⟩ = some (.int .i64 (1 - IR p)) := by rw [LB.out.cell, ints_get _ _ (by rw [markAll_length]; simpa using hpl), eA]
              have e2 : wB.cell? ⟨wA.heap.size, p, none⟩ = some (.int .i64 (1 - IV p)) := by rw [MB.out.cell, ints_get _ _ (by rw [markAll_length]; simpa using hpl), eB]
              have e3 : wB.cell? ⟨w3.heap.size, p, none⟩ = some (.int .i64 (IR p)) := by rw [KB.out.cell, ints_get _ _ (by rw [HLR.out]; exact hpl), HIND.out p hpl]
              have b1 : (p : Int) < (len0 : Int) := by omega
              clear eA eB
              by_cases hin : lo ≤ (p : Int) ∧ (p : Int) < hi
              · obtain ⟨d1, d2⟩ := hin
                rw [HIN.out p d1 d2, show (1 - (1 - IR p) : Int) = IR p by omega] at e2
                obtain ⟨d, hd⟩ : ∃ d, d = IR p := ⟨_, rfl⟩
                have hdb : 0 ≤ d ∧ d ≤ 1 := by rw [hd]; exact H01.out p
                rw [← hd] at e1 e2 e3
                have t1 : (d != d) = false := by simp
                have t2 : ((1 - d : Int) != 1 - d) = false := by simp
                clear hd
                go_wp2
                go_quiet (fail)
                go_wp2
                go_roundw
                case rel => exact ⟨p + 1, _, by omega, by go_num, rfl⟩
                case measure => simp [intOf]; omega
              · have h0 : (p : Int) < lo ∨ hi ≤ (p : Int) := by omega
                rw [HOUT.out p h0] at e1
                rw [HOUT'.out p h0] at e2
                clear e3
                rcases h0 with h0 | h0
                all_goals
                  go_wp2
                  go_roundw
                  case rel => exact ⟨p + 1, _, by omega, by go_num, rfl⟩
                  case measure => simp [intOf]; omega
            · go_wp2
              go_ret
              exact ⟨rfl, below_drewN BB.out _⟩

end Go.Proofs.Qxb6615808a
