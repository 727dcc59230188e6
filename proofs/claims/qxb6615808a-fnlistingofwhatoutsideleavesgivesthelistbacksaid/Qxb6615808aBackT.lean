/-
  The walk of 'FnListingOfWhatOutsideLeavesGivesTheListBack' (4), hasList = true.
-/
import Derived.Test.Qxb6615808aBackPlain
import Derived.Test.Qxb6615808aListing
namespace Go.Proofs.Qxb6615808a
open Go.RowKit

set_option maxRecDepth 100000 in
set_option maxHeartbeats 4000000 in
theorem walk4t (a0 : Option Addr) (len0 cap0 : Nat) (a1 : Option Addr) (len1 cap1 : Nat) (zs : List Int) (w : World)
    (hm0 : len0 ≤ 9223372036854775807) (hm1 : len1 ≤ 9223372036854775807) (hs : Strs w a0 len0) (hn0 : a0 = none → len0 = 0) (h1 : Ats w a1 len1 zs) (hn1 : a1 = none → len1 = 0) :
    Calls Try.prog 4 #[.slice a0 len0 cap0, .slice a1 len1 cap1, .bool true] w fun e w' => e = .returned (.bool true) ∧ Below w.heap.size w w' := by
  have HS := hide hs
  have HN0 := hide hn0
  have H1 := hide h1
  have HN1 := hide hn1
  clear hs hn0 h1 hn1
  go_enter Try.func4, Try.ntmps4
  go_wp2_with fail
  refine (bytes25_any a0 len0 cap0 a1 len1 cap1 true _ hm0 hm1 HS.out).mono ?_
  rintro e w' ⟨⟨b, rfl⟩, hw⟩
  obtain rfl := hw.symm
  cases b
  · go_wp2
    go_ret
    exact ⟨rfl, Below.refl _ _⟩
  by_cases g0 : 4096 < len0
  · go_wp2
    go_ret
    exact ⟨rfl, Below.refl _ _⟩
  by_cases g1 : 4096 < len1
  · go_wp2
    go_ret
    exact ⟨rfl, Below.refl _ _⟩
  go_wp2_with fail
  refine (strBytes_any a0 len0 cap0 _ hm0 HS.out).mono ?_
  rintro e w' ⟨u, rfl, hu0, hu1, hw⟩
  obtain rfl := hw.symm
  by_cases g2 : 1048576 < u
  · go_wp2
    go_ret
    exact ⟨rfl, Below.refl _ _⟩
  by_cases g3 : (1048576 - u) / 8 < (len1 : Int)
  · go_wp2
    go_ret
    exact ⟨rfl, Below.refl _ _⟩
  go_wp2_with fail
  refine (distinct_any a0 len0 cap0 _ hm0 HS.out).mono ?_
  rintro e w' ⟨⟨b, rfl⟩, nq, rfl⟩
  cases b
  · go_wp2
    go_ret
    exact ⟨rfl, below_drewN (Below.refl _ _) _⟩
  go_wp2_with fail
  refine (asc_any a1 len1 cap1 zs 0 (len0 : Int) _ hm1 (show Ats (w.drewN nq) a1 len1 zs from H1.out)).mono ?_
  rintro e w' ⟨rfl, nr, rfl⟩
  cases hab : ascB zs len1 0 (len0 : Int)
  · go_wp2
    go_ret
    exact ⟨rfl, below_drewN (Below.refl _ _) _⟩
  have HAsc := hide (asc_iff.1 hab)
  clear hab
  have B1 : Hid (Below w.heap.size w (w.drewN (nq + nr))) := below_drewN (Below.refl _ _) _
  have S1 : Hid (Strs (w.drewN (nq + nr)) a0 len0) := HS.out
  have A1 : Hid (Ats (w.drewN (nq + nr)) a1 len1 zs) := H1.out
  clear HS H1
  go_wp2_with fail
  generalize w.drewN (nq + nr) = w1 at B1 S1 A1 ⊢
  -- the copies
  refine (cloneStrs_any a0 len0 cap0 w1 (by omega) HN0.out S1.out).mono ?_
  rintro e w2 ⟨ai, rfl, hb2⟩
  have A2 := hide (A1.out.below hb2 (Nat.le_refl _))
  have B2 := hide (B1.out.trans (hb2.mono B1.out.size))
  clear hb2 A1 B1 S1 HN0
  go_wp2_with fail
  refine (cloneInts_any a1 len1 cap1 zs w2 (by omega) HN1.out A2.out).mono ?_
  rintro e w3 ⟨c1, rfl, ho3, hb3⟩
  have O3 := hide ho3
  have B3 := hide (B2.out.trans (hb3.mono B2.out.size))
  clear ho3 hb3 A2 B2 HN1
  -- the organization, the list
  go_wp2_with fail
  refine (newOrg_any _ _ _ _).mono ?_
  rintro e w4 ⟨rfl, hc4, hb4, hs4⟩
  have O4 := hide (O3.out.below hb4 (Nat.le_refl _))
  have B4 := hide (B3.out.trans (hb4.mono B3.out.size))
  have C4 := hide hc4
  clear hc4 hb4 O3 B3
  go_wp2_with fail
  refine (noList_any _).mono ?_
  rintro e w' ⟨rfl, hw⟩
  obtain rfl := hw.symm
  go_wp2_with fail
  refine (cloneInts_any c1 len1 len1 zs w4 (by omega) O4.out.none O4.out.ats).mono ?_
  rintro e w5 ⟨adL, rfl, ho5, hb5⟩
  have P5 := hide (O4.out.below hb5 (Nat.le_refl _))
  have O5 := hide ho5
  have C5 : Hid (w5.cell? ⟨w3.heap.size, 14, none⟩ = some (.slice ai len0 len0)) := by rw [hb5.cell (p := ⟨w3.heap.size, 14, none⟩) hs4]; exact C4.out
  have B5 := hide (B4.out.trans (hb5.mono B4.out.size))
  have h45 := hb5.size
  clear ho5 hb5 O4 C4 B4
  go_wp2_with fail
  refine (newList_any _ _ _ _).mono ?_
  rintro e w6 ⟨rfl, hc6, hb6, hs6⟩
  have P6 := hide (P5.out.below hb6 (Nat.le_refl _))
  have O6 := hide (O5.out.below hb6 (Nat.le_refl _))
  have C6 : w6.cell? ⟨w3.heap.size, 14, none⟩ = some (.slice ai len0 len0) := by rw [hb6.cell (p := ⟨w3.heap.size, 14, none⟩) (show w3.heap.size < w5.heap.size by omega)]; exact C5.out
  have B6 := hide (B5.out.trans (hb6.mono B5.out.size))
  have CC := hide C6
  have CL := hide hc6
  clear C6 hc6 hb6 P5 O5 C5 B5
  go_wp2_with fail
  refine (zzListing_some w3.heap.size w5.heap.size adL len1 len1 ai len0 len0 w6 CC.out CL.out).mono ?_
  rintro e w7 ⟨rfl, hb7⟩
  have P7 := hide (P6.out.below hb7 (Nat.le_refl _))
  have A7 := hide ((O6.out.below hb7 (Nat.le_refl _)).ats)
  have W7 : Hid (∀ k, w7.heap.size ≤ k → Away k adL) := fun k hk => O6.out.away (.inr (by have := hb7.size; omega))
  have C7 : Hid (w7.cell? ⟨w3.heap.size, 14, none⟩ = some (.slice ai len0 len0)) := by rw [hb7.cell (p := ⟨w3.heap.size, 14, none⟩) (show w3.heap.size < w6.heap.size by omega)]; exact CC.out
  have B7 := hide (B6.out.trans (hb7.mono B6.out.size))
  have hs7 : w3.heap.size < w7.heap.size := by have := hb7.size; omega
  have hp7 : w6.heap.size ≤ w7.heap.size := hb7.size
  clear hb7 P6 O6 CC CL B6
  obtain ⟨ofL, hof⟩ : ∃ x : Option Addr, x = some ⟨w5.heap.size, 0, none⟩ := ⟨_, rfl⟩
  rw [← hof]
  clear hof
  obtain ⟨lenL, hlenL⟩ : ∃ x : Nat, x = len1 := ⟨_, rfl⟩
  obtain ⟨capL, hcapL⟩ : ∃ x : Nat, x = len1 := ⟨_, rfl⟩
  have hlL : lenL ≤ 4096 := by omega
  have hwf1 : WF zs len0 ⟨0, len0, adL, lenL, capL, ofL, false⟩ := ⟨by simp, by simp, by simp, hlL, by rw [hlenL]; exact HAsc.out⟩
  have A7L : Hid (Ats w7 adL lenL zs) := by rw [hlenL]; exact A7.out
  have CO : Hid (∀ W : World, W.cell? ⟨w3.heap.size, 14, none⟩ = some (.slice ai len0 len0) → Calls Try.prog 23 #[.pointer (some ⟨w3.heap.size, 0, none⟩), .agg #[.int .i64 0, .int .i64 (len0 : Int), .slice adL len1 len1, .pointer ofL, .bool false]] W fun e w' =>
      ∃ g rest, e = .returned (.slice (some ⟨g, 0, none⟩) (kept (outs ⟨0, len0, adL, lenL, capL, ofL, false⟩ len0)).length 3) ∧ Blk w' g 37 (flat (kept (outs ⟨0, len0, adL, lenL, capL, ofL, false⟩ len0)) ++ rest) ∧ W.heap.size ≤ g ∧ Below W.heap.size W w') := by
    intro W h
    have C := zzOutside_any w3.heap.size ⟨0, len0, adL, lenL, capL, ofL, false⟩ ai len0 len0 W h ⟨by simp, by simp, by simp, by simp; omega, hlL⟩ (by omega)
    rw [hlenL, hcapL] at C ⊢
    exact C
  go_wp2_with fail
  have C8 : ∀ x, (w7.alloc x).cell? ⟨w3.heap.size, 14, none⟩ = some (.slice ai len0 len0) := fun x => by rw [World.cell?_alloc_lt w7 x ⟨w3.heap.size, 14, none⟩ hs7]; exact C7.out
  refine (CO.out _ (C8 _)).mono ?_
  clear CO
  rintro e w8 ⟨g, rest, rfl, hk8, hg8, hb8⟩
  have q0 : w8.cell? ⟨w7.heap.size, 0, none⟩ = some (.int .i64 0) := by rw [hb8.cell (p := ⟨w7.heap.size, 0, none⟩) (by simp)]; simp
  have q1 : w8.cell? ⟨w7.heap.size, 1, none⟩ = some (.int .i64 (len0 : Int)) := by rw [hb8.cell (p := ⟨w7.heap.size, 1, none⟩) (by simp)]; simp
  have q2 : w8.cell? ⟨w7.heap.size, 2, none⟩ = some (.slice adL lenL capL) := by rw [hb8.cell (p := ⟨w7.heap.size, 2, none⟩) (by simp), hlenL, hcapL]; simp
  have q3 : w8.cell? ⟨w7.heap.size, 3, none⟩ = some (.pointer ofL) := by rw [hb8.cell (p := ⟨w7.heap.size, 3, none⟩) (by simp)]; simp
  have q4 : w8.cell? ⟨w7.heap.size, 4, none⟩ = some (.bool false) := by rw [hb8.cell (p := ⟨w7.heap.size, 4, none⟩) (by simp)]; simp
  have Q8 := hide (And.intro q0 (And.intro q1 (And.intro q2 (And.intro q3 q4))))
  have C8' : Hid (w8.cell? ⟨w3.heap.size, 14, none⟩ = some (.slice ai len0 len0)) := by rw [hb8.cell (p := ⟨w3.heap.size, 14, none⟩) (show w3.heap.size < (w7.alloc _).heap.size by simp; omega)]; exact C8 _
  have P8 := hide ((P7.out.below ((Below.refl _ _).alloc (Nat.le_refl _) _) (Nat.le_refl _)).below hb8 (Nat.le_refl _))
  have A8 := hide ((A7L.out.below ((Below.refl _ _).alloc (Nat.le_refl _) _) (Nat.le_refl _)).below hb8 (Nat.le_refl _))
  have hb8' := hb8.size
  simp at hb8'
  have W8 : Hid (∀ k, w8.heap.size ≤ k → Away k adL) := fun k hk => W7.out k (by omega)
  have B8 := hide ((B7.out.alloc B7.out.size _).trans (hb8.mono (by have := B7.out.size; simp; omega)))
  have hgl : g < w8.heap.size := hk8.lt
  have hn4 : len0 ≤ 4096 := by omega
  have HLL := hide hlenL
  have X2 : Hid (appAll zs (kept (outs ⟨0, len0, adL, lenL, capL, ofL, false⟩ len0)) [] = heldL zs lenL true 0 len0) := outs_kept_app hwf1 rfl rfl
  have D9 := hide (dst_new w8)
  have F9 : Hid (Below w8.heap.size w8 (w8.alloc (.cells #[] 3))) := (Below.refl _ _).alloc (Nat.le_refl _) _
  have hs9 : (w8.alloc (.cells #[] 3)).heap.size = w8.heap.size + 1 := by simp
  have G9 := hide (outs_good2 (g0 := w8.heap.size) hwf1 (A8.out.below F9.out (Nat.le_refl _)) (fun k hk => W8.out k (by omega)))
  have R8 := hide hk8
  have HWF := hide hwf1
  have HHA := hide (show Asc zs lenL ((0 : Nat) : Int) ((0 + len0 : Nat) : Int) by simpa using hwf1.2.2.2.2)
  clear q0 q1 q2 q3 q4 hk8 hg8 hb8 P7 A7L C7 C8 B7 W7 hwf1 hlenL hcapL HAsc
  generalize kept (outs ⟨0, len0, adL, lenL, capL, ofL, false⟩ len0) = xs at X2 G9 R8 ⊢
  have hxl := G9.out.short
  go_wp2
  generalize w8.alloc (.cells #[] 3) = w9 at D9 F9 hs9 G9 ⊢
  have R9 := hide (R8.out.below F9.out hgl)
  have P9 := hide (P8.out.below F9.out (Nat.le_refl _))
  have B9 := hide (B8.out.trans (F9.out.mono B8.out.size))
  have hs9' : w8.heap.size < w9.heap.size := by omega
  have PW : Hid (∀ k, w8.heap.size ≤ k → Away k c1) := fun k hk => P8.out.away (.inr hk)
  have C9 : Hid (w9.cell? ⟨w3.heap.size, 14, none⟩ = some (.slice ai len0 len0)) := by rw [F9.out.cell (p := ⟨w3.heap.size, 14, none⟩) (show w3.heap.size < w8.heap.size by omega)]; exact C8'.out
  have Q9 := hide (keep5 F9.out Q8.out)
  have hwb := B8.out.size
  clear hs9 R8 P8 B8 C8' Q8 F9
  go_loopw [13, 14] (fun v iv wr => ∃ (k : Nat) (pr : Int) (gr cr : Nat), k ≤ xs.length ∧ iv = .int .i64 (k : Int) ∧ Chain pr (xs.drop k) ∧ (∀ y ∈ appK zs xs k, y < pr) ∧ v = .slice (some ⟨gr, 0, none⟩) (appK zs xs k).length cr ∧ Dst wr gr cr (appK zs xs k) ∧ But w8.heap.size w9 wr ∧ (gr = w8.heap.size ∨ w9.heap.size ≤ gr)) (fun _ iv _ => xs.length - (intOf iv).toNat)
  case atStart => exact ⟨0, 0, w8.heap.size, 0, Nat.zero_le _, rfl, G9.out.chain, fun y hy => by simp [appK, appAll] at hy, rfl, D9.out, But.refl _ _, .inl rfl⟩
  case round =>
    obtain ⟨k, pr, gr, cr, hk, rfl, hch, hlt0, rfl, hdst, hbut, hgr⟩ := hrel
    have HCH := hide hch
    have HLT := hide hlt0
    have HDS := hide hdst
    have HBT := hide hbut
    have HGR := hide hgr
    clear hch hlt0 hdst hbut hgr
    by_cases hlt : k < xs.length
    · obtain ⟨x, hx⟩ : ∃ x, xs[k]? = some x := ⟨xs[k], List.getElem?_eq_getElem hlt⟩
      obtain ⟨c0, c1', c2', c3, c4⟩ := flat_cells' (HBT.out.blk R9.out (by omega)) hx
      have HX := hide hx
      have hmem := List.mem_of_getElem? hx
      clear hx
      obtain ⟨xwf, xats, xaw⟩ := G9.out.each x hmem
      have XW := hide xwf
      have XA := hide (HBT.out.ats xats (xaw _ (.inl rfl)))
      have XY := hide (xaw gr HGR.out)
      clear xwf xats xaw hmem
      have hcd := chain_drop xs k x pr HX.out HCH.out
      have HCD := hide hcd.2
      have HPR := hide (fun y hy => Int.lt_of_lt_of_le (HLT.out y hy) hcd.1)
      have HPL := hide (appRn_lt XW.out HLT.out hcd.1)
      have HSN := hide (appK_snoc zs xs k x HX.out)
      have HLN := hide (appK_le G9.out hn4 k)
      have hf0 : From wr (wr.alloc (.cells #[.int .i64 x.lo, .int .i64 x.hi, .slice x.ad x.len x.cap, .pointer x.of, .bool x.comp] 37)).drew := ⟨((Below.refl _ _).alloc (Nat.le_refl _) _).drew⟩
      have hne : wr.heap.size ≠ gr := by have := HDS.out.lt; omega
      clear hcd
      generalize appK zs xs k = L at *
      go_wp2_with fail
      go_region_held3 (fun w' => w'.cell? ⟨wr.heap.size, 0, none⟩ = some (.int .i64 x.lo) ∧ w'.cell? ⟨wr.heap.size, 1, none⟩ = some (.int .i64 x.hi) ∧ w'.cell? ⟨wr.heap.size, 2, none⟩ = some (.slice x.ad x.len x.cap) ∧ w'.cell? ⟨wr.heap.size, 3, none⟩ = some (.pointer x.of) ∧ w'.cell? ⟨wr.heap.size, 4, none⟩ = some (.bool x.comp))
        (first | (exact keep5 (by assumption) (by assumption)) | (exact keep5b hne (by assumption) (by assumption)) | go_keep)
        (first | (go_at_call 18; refine (runLo_any _ _ _ _ _ _ _ _).mono ?_; rintro e w1 ⟨rfl, hb1⟩; have hf := From.step (by assumption) hb1) | (go_at_call 19; refine (runHi_any _ _ _ _ _ _ _ _).mono ?_; rintro e w1 ⟨rfl, hb1⟩; have hf := From.step (by assumption) hb1) | (go_at_call 20; refine (runListed_any _ _ _ _ _ _ _ _).mono ?_; rintro e w1 ⟨rfl, hb1⟩; have hf := From.step (by assumption) hb1) | (go_at_call 21; refine (runComp_any _ _ _ _ _ _ _ _).mono ?_; rintro e w1 ⟨rfl, hb1⟩; have hf := From.step (by assumption) hb1) | (go_at_call 26; refine (appRunF zs x len0 gr cr L wr _ (by assumption) XW.out hn4 XA.out XY.out HDS.out HLN.out HPR.out).mono ?_; rintro e w1 ⟨g26, c26, rfl, hd26, hbt26, hg26, hbo26⟩))
      have HD26 := hide hd26
      have HBT2 := hide (HBT.out.trans' hbt26 HGR.out)
      have HG26 : Hid (g26 = w8.heap.size ∨ w9.heap.size ≤ g26) := by
        have h1 := HGR.out
        have h2 := HBT.out.size
        show g26 = w8.heap.size ∨ w9.heap.size ≤ g26
        omega
      clear hd26 hbt26 hg26 hbo26 hf hb1 c0 c1' c2' c3 c4 hf0
      go_wp2
      go_roundw
      case rel => exact ⟨k + 1, x.hi, g26, c26, by omega, by go_num, HCD.out, by rw [HSN.out]; exact HPL.out, by rw [HSN.out], by rw [HSN.out]; exact HD26.out, HBT2.out, HG26.out⟩
      case measure => simp [intOf]; omega
    · obtain rfl : k = xs.length := by omega
      have hL2 : appK zs xs xs.length = heldL zs lenL true 0 len0 := by unfold appK; rw [List.take_length]; exact X2.out
      have f1 : (appK zs xs xs.length).length + lenL = len0 := by
        have := held_comp HHA.out
        rw [hL2, heldL_length]
        omega
      have F2 := hide (show Asc (appK zs xs xs.length) (appK zs xs xs.length).length 0 (len0 : Int) by
        have := heldL_asc zs lenL true 0 len0
        rw [hL2]
        simpa using this)
      have F3 := hide (show heldL (appK zs xs xs.length) (appK zs xs xs.length).length true 0 len0 = heldL zs lenL false 0 len0 by rw [hL2]; exact back zs lenL len0)
      clear hL2 X2 HCH HLT
      generalize appK zs xs xs.length = L2 at f1 F2 F3 HDS ⊢
      have f1a : L2.length + lenL ≤ len0 := by omega
      have f1b : len0 ≤ L2.length + lenL := by omega
      clear f1
      obtain ⟨wA, rfl⟩ : ∃ wA : World, wA = wr := ⟨_, rfl⟩
      have hszA := HBT.out.size
      have hgrA := HDS.out.lt
      have CA : Hid (wA.cell? ⟨w3.heap.size, 14, none⟩ = some (.slice ai len0 len0)) := (World.cell?_of_block (w := w9) (a := ⟨w3.heap.size, 14, none⟩) (HBT.out.block w3.heap.size (by omega) (by omega))).trans C9.out
      have QA := hide (keep5b (by omega) HBT.out Q9.out)
      have PA := hide (HBT.out.ats P9.out.ats (PW.out _ (Nat.le_refl _)))
      have BA := hide (B9.out.trans (HBT.out.below (B := w.heap.size) (by omega) (by omega)))
      clear C9 Q9 P9 B9 HBT HGR hk hlt
      go_wp2_with fail
      refine (newList_any _ _ _ _).mono ?_
      rintro e wB ⟨rfl, hcB, hbB, hsB⟩
      have HDB := hide (HDS.out.below hbB)
      have CB : wB.cell? ⟨w3.heap.size, 14, none⟩ = some (.slice ai len0 len0) := by rw [hbB.cell (p := ⟨w3.heap.size, 14, none⟩) (show w3.heap.size < wA.heap.size by omega)]; exact CA.out
      have HCB := hide CB
      have HCL := hide hcB
      have QB := hide (keep5 hbB QA.out)
      have PB := hide (PA.out.below hbB (Nat.le_refl _))
      have BB := hide (BA.out.trans (hbB.mono BA.out.size))
      clear CB hcB hbB HDS CA QA PA BA
      go_wp2_with fail
      refine (zzListing_some w3.heap.size wA.heap.size (some ⟨gr, 0, none⟩) L2.length cr ai len0 len0 wB HCB.out HCL.out).mono ?_
      rintro e wC ⟨rfl, hbC⟩
      have HDC := hide (HDB.out.below hbC)
      have HCC : Hid (∀ x, (wC.alloc x).cell? ⟨w3.heap.size, 14, none⟩ = some (.slice ai len0 len0)) := fun x => by
        have hsz : w3.heap.size < wC.heap.size := by have := hbC.size; omega
        rw [World.cell?_alloc_lt wC x ⟨w3.heap.size, 14, none⟩ hsz, hbC.cell (p := ⟨w3.heap.size, 14, none⟩) (show w3.heap.size < wB.heap.size by omega)]
        exact HCB.out
      have QC := hide (keep5 hbC QB.out)
      have PC := hide (PB.out.below hbC (Nat.le_refl _))
      have BC := hide (BB.out.trans (hbC.mono BB.out.size))
      have hBC := hbC.size
      clear hbC HDB HCB HCL QB PB BB
      go_wp2_with fail
      have hwf2 : WF L2 len0 ⟨0, len0, some ⟨gr, 0, none⟩, L2.length, cr, some ⟨wA.heap.size, 0, none⟩, false⟩ := ⟨by simp, by simp, by simp, by simp; omega, F2.out⟩
      refine (zzOutside_any w3.heap.size ⟨0, len0, some ⟨gr, 0, none⟩, L2.length, cr, some ⟨wA.heap.size, 0, none⟩, false⟩ ai len0 len0 _ (HCC.out _) ⟨by simp, by simp, by simp, by simp; omega, by simp; omega⟩ (by omega)).mono ?_
      rintro e wD ⟨g', rest', rfl, hkD, hgD, hbD⟩
      have q0 : wD.cell? ⟨wC.heap.size, 0, none⟩ = some (.int .i64 0) := by rw [hbD.cell (p := ⟨wC.heap.size, 0, none⟩) (by simp)]; simp
      have q1 : wD.cell? ⟨wC.heap.size, 1, none⟩ = some (.int .i64 (len0 : Int)) := by rw [hbD.cell (p := ⟨wC.heap.size, 1, none⟩) (by simp)]; simp
      have q2 : wD.cell? ⟨wC.heap.size, 2, none⟩ = some (.slice (some ⟨gr, 0, none⟩) L2.length cr) := by rw [hbD.cell (p := ⟨wC.heap.size, 2, none⟩) (by simp)]; simp
      have q3 : wD.cell? ⟨wC.heap.size, 3, none⟩ = some (.pointer (some ⟨wA.heap.size, 0, none⟩)) := by rw [hbD.cell (p := ⟨wC.heap.size, 3, none⟩) (by simp)]; simp
      have q4 : wD.cell? ⟨wC.heap.size, 4, none⟩ = some (.bool false) := by rw [hbD.cell (p := ⟨wC.heap.size, 4, none⟩) (by simp)]; simp
      have YD := hide (And.intro q0 (And.intro q1 (And.intro q2 (And.intro q3 q4))))
      have QD := hide (keep5 hbD (keep5 ((Below.refl _ _).alloc (Nat.le_refl _) _) QC.out))
      have PD := hide ((PC.out.below ((Below.refl _ _).alloc (Nat.le_refl _) _) (Nat.le_refl _)).below hbD (Nat.le_refl _))
      have HDD := hide ((HDC.out.below ((Below.refl _ _).alloc (Nat.le_refl _) _)).below hbD)
      have hbD' := hbD.size
      simp at hbD'
      have BD := hide ((BC.out.alloc BC.out.size _).trans (hbD.mono (by have := BC.out.size; simp; omega)))
      have hglD : g' < wD.heap.size := hkD.lt
      have Y2 : Hid (appAll L2 (kept (outs ⟨0, len0, some ⟨gr, 0, none⟩, L2.length, cr, some ⟨wA.heap.size, 0, none⟩, false⟩ len0)) [] = heldL zs lenL false 0 len0) := (outs_kept_app hwf2 rfl rfl).trans F3.out
      have DE := hide (dst_new wD)
      have FE : Hid (Below wD.heap.size wD (wD.alloc (.cells #[] 3))) := (Below.refl _ _).alloc (Nat.le_refl _) _
      have hsE : (wD.alloc (.cells #[] 3)).heap.size = wD.heap.size + 1 := by simp
      have GE := hide (outs_good2 (g0 := wD.heap.size) hwf2 (HDD.out.ats.below FE.out (Nat.le_refl _)) (fun k hk x hx => by
        cases hx
        show gr ≠ k
        omega))
      have RD := hide hkD
      clear q0 q1 q2 q3 q4 hkD hgD hbD HDC HCC QC PC BC hwf2 F2 F3
      generalize kept (outs ⟨0, len0, some ⟨gr, 0, none⟩, L2.length, cr, some ⟨wA.heap.size, 0, none⟩, false⟩ len0) = ys at Y2 GE RD ⊢
      have hyl := GE.out.short
      go_wp2
      generalize wD.alloc (.cells #[] 3) = wE at DE FE hsE GE ⊢
      have RE := hide (RD.out.below FE.out hglD)
      have PE := hide (PD.out.below FE.out (Nat.le_refl _))
      have BE := hide (BD.out.trans (FE.out.mono BD.out.size))
      have hsE' : wD.heap.size < wE.heap.size := by omega
      have QE := hide (keep5 FE.out QD.out)
      have YE := hide (keep5 FE.out YD.out)
      have hwbD := BD.out.size
      clear hsE RD PD BD QD YD FE HDD
      go_loopw [20, 21] (fun v iv wr => ∃ (k : Nat) (pr : Int) (gr cr : Nat), k ≤ ys.length ∧ iv = .int .i64 (k : Int) ∧ Chain pr (ys.drop k) ∧ (∀ y ∈ appK L2 ys k, y < pr) ∧ v = .slice (some ⟨gr, 0, none⟩) (appK L2 ys k).length cr ∧ Dst wr gr cr (appK L2 ys k) ∧ But wD.heap.size wE wr ∧ (gr = wD.heap.size ∨ wE.heap.size ≤ gr)) (fun _ iv _ => ys.length - (intOf iv).toNat)
      case atStart => exact ⟨0, 0, wD.heap.size, 0, Nat.zero_le _, rfl, GE.out.chain, fun y hy => by simp [appK, appAll] at hy, rfl, DE.out, But.refl _ _, .inl rfl⟩
      case round =>
        obtain ⟨gr0, rfl⟩ : ∃ x : Nat, x = gr := ⟨_, rfl⟩
        obtain ⟨cr0, rfl⟩ : ∃ x : Nat, x = cr := ⟨_, rfl⟩
        obtain ⟨k, pr, gr, cr, hk, rfl, hch, hlt0, rfl, hdst, hbut, hgr⟩ := hrel
        have HCH := hide hch
        have HLT := hide hlt0
        have HDS := hide hdst
        have HBT := hide hbut
        have HGR := hide hgr
        clear hch hlt0 hdst hbut hgr
        by_cases hlt : k < ys.length
        · obtain ⟨x, hx⟩ : ∃ x, ys[k]? = some x := ⟨ys[k], List.getElem?_eq_getElem hlt⟩
          obtain ⟨c0, c1', c2', c3, c4⟩ := flat_cells' (HBT.out.blk RE.out (by omega)) hx
          have HX := hide hx
          have hmem := List.mem_of_getElem? hx
          clear hx
          obtain ⟨xwf, xats, xaw⟩ := GE.out.each x hmem
          have XW := hide xwf
          have XA := hide (HBT.out.ats xats (xaw _ (.inl rfl)))
          have XY := hide (xaw gr HGR.out)
          clear xwf xats xaw hmem
          have hcd := chain_drop ys k x pr HX.out HCH.out
          have HCD := hide hcd.2
          have HPR := hide (fun y hy => Int.lt_of_lt_of_le (HLT.out y hy) hcd.1)
          have HPL := hide (appRn_lt XW.out HLT.out hcd.1)
          have HSN := hide (appK_snoc L2 ys k x HX.out)
          have HLN := hide (appK_le GE.out hn4 k)
          have hf0 : From wr (wr.alloc (.cells #[.int .i64 x.lo, .int .i64 x.hi, .slice x.ad x.len x.cap, .pointer x.of, .bool x.comp] 37)).drew := ⟨((Below.refl _ _).alloc (Nat.le_refl _) _).drew⟩
          have hne : wr.heap.size ≠ gr := by have := HDS.out.lt; omega
          clear hcd
          generalize appK L2 ys k = L at *
          go_wp2_with fail
          go_region_held3 (fun w' => w'.cell? ⟨wr.heap.size, 0, none⟩ = some (.int .i64 x.lo) ∧ w'.cell? ⟨wr.heap.size, 1, none⟩ = some (.int .i64 x.hi) ∧ w'.cell? ⟨wr.heap.size, 2, none⟩ = some (.slice x.ad x.len x.cap) ∧ w'.cell? ⟨wr.heap.size, 3, none⟩ = some (.pointer x.of) ∧ w'.cell? ⟨wr.heap.size, 4, none⟩ = some (.bool x.comp))
            (first | (exact keep5 (by assumption) (by assumption)) | (exact keep5b hne (by assumption) (by assumption)) | go_keep)
            (first | (go_at_call 18; refine (runLo_any _ _ _ _ _ _ _ _).mono ?_; rintro e w1 ⟨rfl, hb1⟩; have hf := From.step (by assumption) hb1) | (go_at_call 19; refine (runHi_any _ _ _ _ _ _ _ _).mono ?_; rintro e w1 ⟨rfl, hb1⟩; have hf := From.step (by assumption) hb1) | (go_at_call 20; refine (runListed_any _ _ _ _ _ _ _ _).mono ?_; rintro e w1 ⟨rfl, hb1⟩; have hf := From.step (by assumption) hb1) | (go_at_call 21; refine (runComp_any _ _ _ _ _ _ _ _).mono ?_; rintro e w1 ⟨rfl, hb1⟩; have hf := From.step (by assumption) hb1) | (go_at_call 26; refine (appRunF L2 x len0 gr cr L wr _ (by assumption) XW.out hn4 XA.out XY.out HDS.out HLN.out HPR.out).mono ?_; rintro e w1 ⟨g26, c26, rfl, hd26, hbt26, hg26, hbo26⟩))
          have HD26 := hide hd26
          have HBT2 := hide (HBT.out.trans' hbt26 HGR.out)
          have HG26 : Hid (g26 = wD.heap.size ∨ wE.heap.size ≤ g26) := by
            have h1 := HGR.out
            have h2 := HBT.out.size
            show g26 = wD.heap.size ∨ wE.heap.size ≤ g26
            omega
          clear hd26 hbt26 hg26 hbo26 hf hb1 c0 c1' c2' c3 c4 hf0
          go_wp2
          go_roundw
          case rel => exact ⟨k + 1, x.hi, g26, c26, by omega, by go_num, HCD.out, by rw [HSN.out]; exact HPL.out, by rw [HSN.out], by rw [HSN.out]; exact HD26.out, HBT2.out, HG26.out⟩
          case measure => simp [intOf]; omega
        · obtain rfl : k = ys.length := by omega
          have hL3 : appK L2 ys ys.length = heldL zs lenL false 0 len0 := by unfold appK; rw [List.take_length]; exact Y2.out
          have l3 : (appK L2 ys ys.length).length = lenL := by rw [hL3, heldL_length]; exact held_len HHA.out
          have H3 := hide (show ∀ i, i < lenL → (appK L2 ys ys.length).getD i 0 = zs.getD i 0 from fun i hi => by
            rw [hL3]
            exact heldL_get HHA.out len0 i (by rw [held_len HHA.out]; exact hi))
          clear hL3 Y2 HCH HLT
          generalize appK L2 ys ys.length = L3 at l3 H3 HDS ⊢
          have l3a : L3.length ≤ len1 := by rw [l3, HLL.out]; exact Nat.le_refl _
          have l3b : len1 ≤ L3.length := by rw [l3, HLL.out]; exact Nat.le_refl _
          clear l3
          obtain ⟨wF, rfl⟩ : ∃ wF : World, wF = wr := ⟨_, rfl⟩
          obtain ⟨z0, z1, z2, z3, z4⟩ := keep5b (by omega) HBT.out QE.out
          obtain ⟨y0, y1, y2, y3, y4⟩ := keep5b (by omega) HBT.out YE.out
          have PF := hide (HBT.out.ats PE.out (PW.out _ (by omega)))
          have BF := hide (BE.out.trans (HBT.out.below (B := w.heap.size) (by omega) (by omega)))
          have r1 : runLen 0 (len0 : Int) lenL false = (lenL : Int) := rfl
          have r2 : runLen 0 (len0 : Int) L2.length false = (L2.length : Int) := rfl
          have hlL2 : L2.length ≤ 4096 := by omega
          have k0 : (0 : Int) ≤ 0 := by omega
          have k1 : (0 : Int) ≤ 4096 := by omega
          have k2 : (0 : Int) ≤ (len0 : Int) := by omega
          have k3 : (len0 : Int) ≤ 4096 := by omega
          have Bf : Hid (Below w.heap.size w wF) := BF.out
          have hf0 : From wF wF.drew := ⟨(Below.refl _ _).drew⟩
          clear QE YE HBT HGR GE BE PE
          go_wp2_with fail
          go_region_held3 (fun w' => (w'.cell? ⟨w7.heap.size, 0, none⟩ = some (.int .i64 0) ∧ w'.cell? ⟨w7.heap.size, 1, none⟩ = some (.int .i64 (len0 : Int)) ∧ w'.cell? ⟨w7.heap.size, 2, none⟩ = some (.slice adL lenL capL) ∧ w'.cell? ⟨w7.heap.size, 3, none⟩ = some (.pointer ofL) ∧ w'.cell? ⟨w7.heap.size, 4, none⟩ = some (.bool false)) ∧ (w'.cell? ⟨wC.heap.size, 0, none⟩ = some (.int .i64 0) ∧ w'.cell? ⟨wC.heap.size, 1, none⟩ = some (.int .i64 (len0 : Int)) ∧ w'.cell? ⟨wC.heap.size, 2, none⟩ = some (.slice (some ⟨gr0, 0, none⟩) L2.length cr0) ∧ w'.cell? ⟨wC.heap.size, 3, none⟩ = some (.pointer (some ⟨wA.heap.size, 0, none⟩)) ∧ w'.cell? ⟨wC.heap.size, 4, none⟩ = some (.bool false)))
            (first | (exact keep10 (by assumption) (by assumption)) | go_keep)
            (first | (go_at_call 22; refine (runLen_any 0 (len0 : Int) adL lenL capL ofL false _ k0 k1 k2 k3 hlL).mono ?_; rintro e w1 ⟨rfl, hb1⟩; have hf := From.step (by assumption) hb1) | (go_at_call 22; refine (runLen_any 0 (len0 : Int) (some ⟨gr0, 0, none⟩) L2.length cr0 (some ⟨wA.heap.size, 0, none⟩) false _ k0 k1 k2 k3 hlL2).mono ?_; rintro e w1 ⟨rfl, hb1⟩; have hf := From.step (by assumption) hb1))
          have PG := hide (PF.out.below hf.below (Nat.le_refl _))
          have DG := hide (HDS.out.below hf.below)
          have BG := hide (BF.out.trans (hf.below.mono BF.out.size))
          obtain ⟨wG, rfl⟩ : ∃ wG : World, wG = w1 := ⟨_, rfl⟩
          rename_i hheld
          clear hheld
          have hwr : IntKind.i64.wrap ((lenL : Int) + (L2.length : Int)) = (len0 : Int) := by rw [IntKind.wrap_i64]; omega
          have hwt : ((len0 : Int) != (len0 : Int)) = false := by simp
          clear hb1 hf hf0 z0 z1 z2 z3 z4 y0 y1 y2 y3 y4 PF HDS BF Bf
          go_wp2
          clear hwr hwt
          go_loopw [26] (fun pv wq => ∃ p nd : Nat, p ≤ len1 ∧ pv = .int .i64 (p : Int) ∧ wq = wG.drewN nd) (fun pv _ => len1 - (intOf pv).toNat)
          case atStart => exact ⟨0, 0, Nat.zero_le _, rfl, rfl⟩
          case round =>
            obtain ⟨p, nd, hp, rfl, hwr⟩ := hrel
            subst hwr
            by_cases hpl : p < len1
            · obtain ⟨b, off, rfl, hcs⟩ := PG.out (by omega)
              obtain ⟨d, hd⟩ : ∃ d, d = zs.getD p 0 := ⟨_, rfl⟩
              have e1 : wG.cell? ⟨gr, p, none⟩ = some (.int .i64 d) := by rw [DG.out.cell p (by omega), H3.out p (by rw [HLL.out]; exact hpl), hd]
              have e2 : wG.cell? ⟨b, off + p, none⟩ = some (.int .i64 d) := by rw [hcs p hpl, hd]
              have e3 : (d != d) = false := by simp
              have b1 : (p : Int) < (len1 : Int) := by omega
              have b2 : (p : Int) < (L3.length : Int) := by omega
              clear hd hcs
              go_wp2
              go_quiet (fail)
              go_wp2
              go_roundw
              case rel => exact ⟨p + 1, _, by omega, by go_num, rfl⟩
              case measure => simp [intOf]; omega
            · go_wp2
              go_ret
              exact ⟨rfl, below_drewN BG.out _⟩

end Go.Proofs.Qxb6615808a

