/-
  The walk of 'FnEmptyCausalPastPlacesInvertLayoutAndRowsBlank' (3).
-/
import Derived.Test.Qxb6615810aPast
namespace Go.Proofs.Qxb6615810a
open Go.RowKit

set_option maxRecDepth 100000 in
set_option maxHeartbeats 2000000 in
theorem walk3 (a : Option Addr) (S cap : Nat) (A : Nat → Option Addr) (L C : Nat → Nat) (X : Nat → List Int) (w : World) (hm : S ≤ 9223372036854775807) (h : Rws w a S A L C X) :
    Calls Try.prog 3 #[.slice a S cap] w fun e w' => e = .returned (.bool true) ∧ Below w.heap.size w w' := by
  have HR := hide h
  clear h
  go_enter Try.func3, Try.ntmps3
  go_wp2_with fail
  refine (bytes9_any a S cap A L C X _ hm HR.out).mono ?_
  rintro e w' ⟨⟨b, rfl⟩, hw⟩
  obtain rfl := hw.symm
  cases b
  · go_wp2
    go_ret
    exact ⟨rfl, Below.refl _ _⟩
  by_cases g0 : 4096 < S
  · go_wp2
    go_ret
    exact ⟨rfl, Below.refl _ _⟩
  go_wp2
  go_loop [3, 4, 27] (fun bv nv iv => ∃ k : Nat, k ≤ S ∧ iv = .int .i64 (k : Int) ∧ nv = .int .i64 (pre L k : Int) ∧ bv = .int .i64 ((S : Int) * 8 + (pre L k : Int) * 8) ∧ pre L k ≤ 131072) (fun _ _ iv => S - (intOf iv).toNat)
  case atStart => exact ⟨0, Nat.zero_le _, rfl, rfl, by simp [pre], by simp [pre]⟩
  case round =>
    obtain ⟨k, hk, rfl, rfl, rfl, hp⟩ := hrel
    by_cases hlt : k < S
    · obtain ⟨b, off, rfl, hcs⟩ := HR.out (by omega)
      obtain ⟨hcell, hl1, _⟩ := hcs k hlt
      have HP : Hid (pre L (k + 1) = pre L k + L k) := rfl
      clear hcs
      generalize L k = ln at hcell HP hl1
      generalize A k = an at hcell
      generalize C k = cn at hcell
      generalize pre L k = pk at hp HP
      by_cases g1 : 131072 < ln
      · go_wp2
        go_ret
        exact ⟨rfl, Below.refl _ _⟩
      · by_cases g2 : 1048576 < (S : Int) * 8 + (pk : Int) * 8 + (ln : Int) * 8
        · go_wp2
          go_ret
          exact ⟨rfl, Below.refl _ _⟩
        · go_wp2
          go_round
          case rel => exact ⟨k + 1, by omega, by go_num, by rw [HP.out]; go_num, by rw [HP.out]; go_num, by rw [HP.out]; omega⟩
          case measure => simp [intOf]; omega
    · obtain rfl : S = k := by omega
      obtain ⟨n, hn⟩ : ∃ n, n = pre L S := ⟨_, rfl⟩
      rw [← hn]
      rw [← hn] at hp
      have HN := hide hn
      obtain ⟨N, hN⟩ : ∃ N, N = n * S := ⟨_, rfl⟩
      have hNI : (n : Int) * (S : Int) = (N : Int) := by rw [hN, Int.natCast_mul]
      have hNb : N ≤ 536870912 := by rw [hN]; exact Nat.mul_le_mul hp (show S ≤ 4096 by omega)
      have HNN := hide hN
      clear hn hN
      by_cases g3 : 4194304 < N
      · go_wp2
        go_ret
        exact ⟨rfl, Below.refl _ _⟩
      go_wp2_with fail
      refine (perm_any a S cap n A L C X w (by omega) HN.out hp HR.out).mono ?_
      rintro e w1 ⟨⟨b, rfl, hlay⟩, hb1⟩
      have B1 := hide hb1
      have R1 := hide (HR.out.below hb1)
      clear hb1 HR
      cases b
      · clear hlay
        go_wp2
        go_ret
        exact ⟨rfl, B1.out⟩
      have HY := hide (hlay rfl)
      clear hlay
      go_wp2_with fail
      refine (past_any a S cap n N A L C X w1 (by omega) HN.out hp HNN.out (by omega) R1.out HY.out).mono ?_
      rintro e w2 ⟨g, pl, g2, rfl, hl, hpo, hkg, hkg2, hg, hg2, hb2⟩
      have HL := hide hl
      have HPO := hide hpo
      have K2 := hide hkg
      have M2 := hide hkg2
      have R2 := hide (R1.out.below hb2)
      have B2 := hide (B1.out.trans (hb2.mono B1.out.size))
      clear hl hpo hkg hkg2 hg hg2 hb2 R1 B1
      go_wp2_with fail
      refine (causalPlaces_any S n N g g2 _).mono ?_
      rintro e w3 ⟨rfl, hb3⟩
      have z0 : w3.cell? ⟨w2.heap.size, 0, none⟩ = some (.int .i64 (S : Int)) := by rw [hb3.cell (p := ⟨w2.heap.size, 0, none⟩) (by simp)]; simp
      have z1 : w3.cell? ⟨w2.heap.size, 1, none⟩ = some (.slice (some ⟨g, 0, none⟩) n n) := by rw [hb3.cell (p := ⟨w2.heap.size, 1, none⟩) (by simp)]; simp
      have z2 : w3.cell? ⟨w2.heap.size, 2, none⟩ = some (.slice (some ⟨g2, 0, none⟩) N N) := by rw [hb3.cell (p := ⟨w2.heap.size, 2, none⟩) (by simp)]; simp
      have Z3 := hide (And.intro z0 (And.intro z1 z2))
      have K3 := hide ((K2.out.alloc _).below hb3 (by simp; have := K2.out.lt; omega))
      have M3 := hide ((M2.out.alloc _).below hb3 (by simp; have := M2.out.lt; omega))
      have R3 := hide ((R2.out.below ((Below.refl _ _).alloc (Nat.le_refl _) _)).below hb3)
      have B3 := hide ((B2.out.alloc B2.out.size _).trans (hb3.mono (by have := B2.out.size; simp; omega)))
      clear z0 z1 z2 hb3 K2 M2 R2 B2
      have hnn : ((n : Int) != (n : Int)) = false := by simp
      go_wp2
      clear hnn
      go_loopw [10] (fun tv wr => ∃ t : Nat, t ≤ n ∧ tv = .int .i64 (t : Int) ∧ From w3 wr) (fun tv _ => n - (intOf tv).toNat)
      case atStart => exact ⟨0, Nat.zero_le _, rfl, ⟨Below.refl _ _⟩⟩
      case round =>
        obtain ⟨t, ht, rfl, hfr⟩ := hrel
        have HF := hide hfr
        clear hfr
        by_cases htn : t < n
        · obtain ⟨s, i, hpl, hs, hi, hx⟩ := HPO.out t htn
          have hS0 : 0 < S := by omega
          obtain ⟨c0, c1⟩ := flat2_get pl t (s, i) hpl
          have kr := K3.out.below HF.out.below K3.out.lt
          have d0 : wr.cell? ⟨g, t * 2, none⟩ = some (.int .i64 (s : Int)) := by rw [kr.cell]; exact c0
          have d1 : wr.cell? ⟨g, t * 2 + 1, none⟩ = some (.int .i64 (i : Int)) := by rw [kr.cell]; exact c1
          obtain ⟨b, off, rfl, hcs⟩ := (R3.out.below HF.out.below) hS0
          obtain ⟨hrow, hls, hats⟩ := hcs s hs
          have hrow' : ∀ o, (wr.alloc o).cell? ⟨b, off + s, none⟩ = some (.slice (A s) (L s) (C s)) := fun o => by rw [World.cell?_alloc_lt wr o ⟨b, off + s, none⟩ (World.block_lt_of_cell? wr _ hrow)]; exact hrow
          clear hcs c0 c1 hpl kr hrow
          have hpr := pre_row L s S hs
          rw [← HN.out] at hpr
          generalize L s = ls at hrow' hls hats hi hpr
          generalize C s = cs at hrow'
          generalize A s = asl at hrow' hats
          obtain ⟨b2, off2, rfl, hc2⟩ := hats (by omega)
          have hti := hc2 i hi
          rw [hx] at hti
          have hti' : ∀ o, (wr.alloc o).cell? ⟨b2, off2 + i, none⟩ = some (.int .i64 (t : Int)) := fun o => by rw [World.cell?_alloc_lt wr o ⟨b2, off2 + i, none⟩ (World.block_lt_of_cell? wr _ hti)]; exact hti
          have htt : ((t : Int) != (t : Int)) = false := by simp
          obtain ⟨zz0, zz1, zz2⟩ := Z3.out
          have hwl : w2.heap.size < w3.heap.size := World.block_lt_of_cell? w3 _ zz0
          have zr : ∀ o j v, w3.cell? ⟨w2.heap.size, j, none⟩ = some v → (wr.alloc o).cell? ⟨w2.heap.size, j, none⟩ = some v := fun o j v hv => by
            rw [World.cell?_alloc_lt wr o ⟨w2.heap.size, j, none⟩ (by have := HF.out.below.size; show w2.heap.size < wr.heap.size; omega), HF.out.below.cell (p := ⟨w2.heap.size, j, none⟩) hwl]
            exact hv
          have y0 := fun o => zr o 0 _ zz0
          have y1 := fun o => zr o 1 _ zz1
          have y2 := fun o => zr o 2 _ zz2
          clear zr zz0 zz1 zz2 hc2 hti hx
          obtain ⟨d, hd⟩ : ∃ d, d = t * S := ⟨_, rfl⟩
          have hdN : d + S ≤ N := by
            have h1 : (t + 1) * S ≤ n * S := Nat.mul_le_mul_right S (by omega)
            rw [Nat.succ_mul, ← hd, ← HNN.out] at h1
            exact h1
          have HD := hide hd
          clear hd
          go_wp2_with fail
          refine (of_any S n N g g2 t d _ hS0 (by omega) (by omega) (by omega) HD.out hdN).mono ?_
          rintro e w5 ⟨⟨cq, rfl⟩, hb5⟩
          have M5 := hide (((M3.out.below HF.out.below M3.out.lt).alloc _).below hb5 (by simp; have := (M3.out.below HF.out.below M3.out.lt).lt; omega))
          have F5 : Hid (From w3 w5) := ⟨(HF.out.below.alloc HF.out.below.size _).trans (hb5.mono (by have := HF.out.below.size; simp; omega))⟩
          clear hb5 y0 y1 y2 hrow' hti' htt d0 d1
          have hSS : ((S : Int) != (S : Int)) = false := by simp
          go_wp2
          clear hSS
          go_loop [115] (fun qv => ∃ q : Nat, q ≤ S ∧ qv = .int .i64 (q : Int)) (fun qv => S - (intOf qv).toNat)
          case atStart => exact ⟨0, Nat.zero_le _, rfl⟩
          case round =>
            obtain ⟨q, hq, rfl⟩ := hrel
            by_cases hqs : q < S
            · have hcq : w5.cell? ⟨g2, d + q, none⟩ = some (.int .i32 0) := by
                rw [M5.out.cell, List.getElem?_replicate, if_pos (by omega)]
              go_wp2
              go_round
              case rel => exact ⟨q + 1, by omega, by go_num⟩
              case measure => simp [intOf]; omega
            · go_wp2
              go_roundw
              case rel => exact ⟨t + 1, by omega, by go_num, F5.out⟩
              case measure => simp [intOf]; omega
        · go_wp2
          go_ret
          exact ⟨rfl, B3.out.trans (HF.out.below.mono B3.out.size)⟩

end Go.Proofs.Qxb6615810a
