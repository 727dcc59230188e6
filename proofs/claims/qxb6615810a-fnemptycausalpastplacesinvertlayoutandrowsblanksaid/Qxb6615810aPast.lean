/-
  The walks of 'EmptyCausalPast' (11), 'ZZcausalPlaces' (12), 'CausalPast.Of' (13).
-/
import Derived.Test.Qxb6615810aPlaces
namespace Go.Proofs.Qxb6615810a
open Go.RowKit

theorem Try.info21 : (Try.prog.info? 21).map (fun i => (i.zero, i.size, i.bytes)) = some (some (.int .i32 0), 1, 4) := by kernel_rfl

theorem carry3 {w1 w2 : World} {b : Nat} {v0 v1 v2 : Value} (hb : Below w1.heap.size w1 w2)
    (h : w1.cell? ⟨b, 0, none⟩ = some v0 ∧ w1.cell? ⟨b, 1, none⟩ = some v1 ∧ w1.cell? ⟨b, 2, none⟩ = some v2 ∧ w1.frozen? ⟨b, 0, none⟩ = false ∧ w1.frozen? ⟨b, 1, none⟩ = false ∧ w1.frozen? ⟨b, 2, none⟩ = false) :
    w2.cell? ⟨b, 0, none⟩ = some v0 ∧ w2.cell? ⟨b, 1, none⟩ = some v1 ∧ w2.cell? ⟨b, 2, none⟩ = some v2 ∧ w2.frozen? ⟨b, 0, none⟩ = false ∧ w2.frozen? ⟨b, 1, none⟩ = false ∧ w2.frozen? ⟨b, 2, none⟩ = false := by
  obtain ⟨h0, h1, h2, f0, f1, f2⟩ := h
  have hl := World.block_lt_of_cell? _ _ h0
  exact ⟨by rw [hb.cell (p := ⟨b, 0, none⟩) hl]; exact h0, by rw [hb.cell (p := ⟨b, 1, none⟩) hl]; exact h1, by rw [hb.cell (p := ⟨b, 2, none⟩) hl]; exact h2,
    by rw [hb.frozen (p := ⟨b, 0, none⟩) hl]; exact f0, by rw [hb.frozen (p := ⟨b, 1, none⟩) hl]; exact f1, by rw [hb.frozen (p := ⟨b, 2, none⟩) hl]; exact f2⟩

set_option maxRecDepth 10000 in
set_option maxHeartbeats 1000000 in
theorem past_any (a : Option Addr) (S cap n N : Nat) (A : Nat → Option Addr) (L C : Nat → Nat) (X : Nat → List Int) (w : World) (hm : S ≤ 4096) (hn : n = pre L S) (hn2 : n ≤ 131072) (hN : N = n * S) (hN2 : N ≤ 4194304) (h : Rws w a S A L C X) (hlay : Lays S n L X) :
    Calls Try.prog 11 #[.slice a S cap] w fun e w' => ∃ g pl g2, e = .returned (.agg #[.int .i64 (S : Int), .slice (some ⟨g, 0, none⟩) n n, .slice (some ⟨g2, 0, none⟩) N N]) ∧ pl.length = n ∧ (∀ t, t < n → PlOk S L X pl t) ∧ Blk w' g 33 (flat2 pl) ∧ Blk w' g2 21 (List.replicate N (.int .i32 0)) ∧ w.heap.size ≤ g ∧ w.heap.size ≤ g2 ∧ Below w.heap.size w w' := by
  have hb0 : ∀ x, Below w.heap.size w (w.alloc x) := fun x => (Below.refl _ _).alloc (Nat.le_refl _) x
  have CP := hide fun x => places_any a S cap n A L C X (w.alloc x) hm hn hn2 (h.below (hb0 x)) hlay
  have hNI : (n : Int) * (S : Int) = (N : Int) := by rw [hN, Int.natCast_mul]
  obtain ⟨i0, hi0, hz0, hz1, hz2⟩ := info_parts Try.info21
  clear hn h hlay hN hb0
  go_enter Try.func11, Try.ntmps11
  go_wp2_with fail
  refine (CP.out _).mono ?_
  rintro e w1 ⟨g, pl, rfl, hl, hpo, hblk, hg, hbel⟩
  have HL := hide hl
  have HP := hide hpo
  have HB := hide hblk
  have hz : w.heap.size < w1.heap.size := by have := hbel.size; simp at this; omega
  have hg' : w.heap.size < g := by simp at hg; omega
  have HBL := hide hbel
  have H3 := hide (carry3 (b := w.heap.size) (v0 := .int .i64 0) (v1 := .slice none 0 0) (v2 := .slice none 0 0) hbel (by simp))
  clear hl hpo hblk hg hbel CP
  go_wp2_with (at_make; refine wpList_make_blk _ rfl _ _ 27 rfl 21 i0 (.int .i32 0) Try.underlying27 hi0 hz0 hz1 rfl _ _ _ _ N rfl rfl rfl rfl (by rw [hz2]; omega) (by omega) ?_; intro w2 hk2 hb2 hs2; obtain ⟨x0, x1, x2, y0, y1, y2⟩ := carry3 hb2 H3.out)
  refine bodyPost_ret (v := .agg #[.int .i64 (S : Int), .slice (some ⟨g, 0, none⟩) n n, .slice (some ⟨w1.heap.size, 0, none⟩) N N]) (by simp [results, Try.results11, go_sem, x0, x1, x2]) rfl ⟨g, pl, w1.heap.size, rfl, HL.out, HP.out, ?_, ?_, by omega, by omega, ?_⟩
  · exact (((HB.out.below hb2 HB.out.lt).setOther _ _ (show g ≠ w.heap.size by omega)).setOther _ _ (show g ≠ w.heap.size by omega)).setOther _ _ (show g ≠ w.heap.size by omega)
  · exact ((hk2.setOther _ _ (show w1.heap.size ≠ w.heap.size by omega)).setOther _ _ (show w1.heap.size ≠ w.heap.size by omega)).setOther _ _ (show w1.heap.size ≠ w.heap.size by omega)
  · exact (((((Below.refl _ _).alloc (Nat.le_refl _) _).trans (HBL.out.mono (by simp))).trans (hb2.mono (by omega))).setCell (Nat.le_refl _) _).setCell (Nat.le_refl _) _ |>.setCell (Nat.le_refl _) _

theorem causalPlaces_any (S n N g g2 : Nat) (w : World) : Calls Try.prog 12 #[.agg #[.int .i64 (S : Int), .slice (some ⟨g, 0, none⟩) n n, .slice (some ⟨g2, 0, none⟩) N N]] w fun e w' => e = .returned (.slice (some ⟨g, 0, none⟩) n n) ∧ Below w.heap.size w w' := by
  go_enter Try.func12, Try.ntmps12
  go_wp2
  go_ret
  exact ⟨rfl, (Below.refl _ _).alloc (Nat.le_refl _) _⟩

set_option maxHeartbeats 400000 in
theorem of_any (S n N g g2 t d : Nat) (w : World) (hS0 : 0 < S) (hS : S ≤ 4096) (hN : N ≤ 4194304) (ht : t ≤ 131072) (hd : d = t * S) (hdN : d + S ≤ N) :
    Calls Try.prog 13 #[.agg #[.int .i64 (S : Int), .slice (some ⟨g, 0, none⟩) n n, .slice (some ⟨g2, 0, none⟩) N N], .int .i64 (t : Int)] w fun e w' => (∃ c, e = .returned (.slice (some ⟨g2, d, none⟩) S c)) ∧ Below w.heap.size w w' := by
  have h1 : (t : Int) * (S : Int) = (d : Int) := by rw [hd, Int.natCast_mul]
  have h2 : ((t : Int) + 1) * (S : Int) = (d : Int) + (S : Int) := by rw [Int.add_mul, Int.one_mul, h1]
  have hne : ¬ N = d := by omega
  clear hd
  go_enter Try.func13, Try.ntmps13
  go_wp2
  go_ret
  refine ⟨⟨N - d, ?_⟩, (Below.refl _ _).alloc (Nat.le_refl _) _⟩
  show Ending.returned (.slice (some ⟨g2, d, none⟩) (d + S - d) (N - d)) = _
  rw [Nat.add_sub_cancel_left]

end Go.Proofs.Qxb6615810a
