/-
  The walks of '(*Organization).outside' (33) and 'ZZoutside' (23).
-/
import Derived.Test.Qxb6615808aDel2
import Derived.Deep.RegionHeld3
namespace Go.Proofs.Qxb6615808a
open Go.RowKit

/-- What a reader of the region knows of each world on its way. -/
theorem keep33 {w w2 w3 : World} {o : Nat} {v0 v1 v2 v3 v4 v5 : Value} (hb : Below w2.heap.size w2 w3)
    (h : w.heap.size < w2.heap.size ∧ w2.cell? ⟨w.heap.size, 0, none⟩ = some v0 ∧ w2.cell? ⟨w.heap.size, 1, none⟩ = some v1 ∧ w2.cell? ⟨w.heap.size, 2, none⟩ = some v2 ∧ w2.cell? ⟨w.heap.size, 3, none⟩ = some v3 ∧ w2.cell? ⟨w.heap.size, 4, none⟩ = some v4 ∧ w2.cell? ⟨o, 14, none⟩ = some v5) :
    w.heap.size < w3.heap.size ∧ w3.cell? ⟨w.heap.size, 0, none⟩ = some v0 ∧ w3.cell? ⟨w.heap.size, 1, none⟩ = some v1 ∧ w3.cell? ⟨w.heap.size, 2, none⟩ = some v2 ∧ w3.cell? ⟨w.heap.size, 3, none⟩ = some v3 ∧ w3.cell? ⟨w.heap.size, 4, none⟩ = some v4 ∧ w3.cell? ⟨o, 14, none⟩ = some v5 := by
  obtain ⟨h0, h1, h2, h3, h4, h5, h6⟩ := h
  have := hb.size
  refine ⟨by omega, ?_, ?_, ?_, ?_, ?_, ?_⟩
  · rw [hb.cell (p := ⟨w.heap.size, 0, none⟩) h0]; exact h1
  · rw [hb.cell (p := ⟨w.heap.size, 1, none⟩) h0]; exact h2
  · rw [hb.cell (p := ⟨w.heap.size, 2, none⟩) h0]; exact h3
  · rw [hb.cell (p := ⟨w.heap.size, 3, none⟩) h0]; exact h4
  · rw [hb.cell (p := ⟨w.heap.size, 4, none⟩) h0]; exact h5
  · rw [hb.cell (p := ⟨o, 14, none⟩) (World.block_lt_of_cell? _ _ h6)]; exact h6

/-- The three runs outside r, before the void ones are struck. -/
def outs (r : Rn) (n : Nat) : List Rn := [⟨0, r.lo, none, 0, 0, none, true⟩, ⟨r.lo, r.hi, r.ad, r.len, r.cap, r.of, !r.comp⟩, ⟨r.hi, n, none, 0, 0, none, true⟩]

theorem outs_ok {r : Rn} (h : r.ok) {n : Nat} (hn : n ≤ 4096) : ∀ x ∈ outs r n, x.ok := by
  intro x hx
  obtain ⟨h0, h1, h2, h3, h4⟩ := h
  simp [outs] at hx
  rcases hx with rfl | rfl | rfl
  · exact ⟨by simp, by simp, by simpa using h0, by simpa using h1, by simp⟩
  · exact ⟨h0, h1, h2, h3, h4⟩
  · exact ⟨by simpa using h2, by simpa using h3, by simp, by simp; omega, by simp⟩

set_option maxHeartbeats 1000000 in
theorem outside_any (o : Nat) (r : Rn) (ai : Option Addr) (n ci : Nat) (w : World) (ho : w.cell? ⟨o, 14, none⟩ = some (.slice ai n ci)) (hok : r.ok) (hn : n ≤ 4096) :
    Calls Try.prog 33 #[.pointer (some ⟨o, 0, none⟩), .agg #[.int .i64 r.lo, .int .i64 r.hi, .slice r.ad r.len r.cap, .pointer r.of, .bool r.comp]] w fun e w' =>
      ∃ g rest, e = .returned (.slice (some ⟨g, 0, none⟩) (kept (outs r n)).length 3) ∧ Blk w' g 37 (flat (kept (outs r n)) ++ rest) ∧ w.heap.size ≤ g ∧ Below w.heap.size w w' := by
  have ho' : ∀ x, (w.alloc x).cell? ⟨o, 14, none⟩ = some (.slice ai n ci) := fun x => by rw [World.cell?_alloc_lt w x ⟨o, 14, none⟩ (World.block_lt_of_cell? w _ ho)]; exact ho
  have HOK := hide (outs_ok hok hn)
  clear hok
  go_enter Try.func33, Try.ntmps33
  go_wp2_with fail
  go_region_held3 (fun w' => w.heap.size < w'.heap.size ∧ w'.cell? ⟨w.heap.size, 0, none⟩ = some (.int .i64 r.lo) ∧ w'.cell? ⟨w.heap.size, 1, none⟩ = some (.int .i64 r.hi) ∧ w'.cell? ⟨w.heap.size, 2, none⟩ = some (.slice r.ad r.len r.cap) ∧ w'.cell? ⟨w.heap.size, 3, none⟩ = some (.pointer r.of) ∧ w'.cell? ⟨w.heap.size, 4, none⟩ = some (.bool r.comp) ∧ w'.cell? ⟨o, 14, none⟩ = some (.slice ai n ci))
    (first | (exact keep33 (by assumption) (by assumption)) | (exact keep33 ((Below.refl _ _).alloc (Nat.le_refl _) _) (by assumption)) | go_keep)
    (first | (go_at_call 35; refine (span_any _ _ _).mono ?_; rintro e w1 ⟨rfl, hb1⟩) | (go_at_call 34; refine (inverse_any _ _ _ _ _ _ _ _).mono ?_; rintro e w1 ⟨rfl, hb1⟩))
  rename_i _ _ wa ha wb hb _
  have hb3 : Below w.heap.size w w1 := by
    refine (((Below.refl w.heap.size w).alloc (Nat.le_refl _) (.cells #[.int .i64 r.lo, .int .i64 r.hi, .slice r.ad r.len r.cap, .pointer r.of, .bool r.comp] 37)).drew.trans (ha.mono ?_)).trans ((hb.mono ?_).trans (hb1.mono ?_))
    · simp
    · have := ha.size; simp at this; omega
    · have h1 := ha.size; have h2 := hb.size; simp at h1; omega
  have HB3 := hide hb3
  clear ha hb hb1 hb3 ho ho'
  rename_i hh
  clear hh
  go_wp2_with fail
  refine (delete_any w1.heap.size 3 (outs r n) _ (Blk.new w1 (flat (outs r n)) 37) HOK.out (by simp [outs]) (by simp [outs]) (by omega)).mono ?_
  rintro e w2 ⟨rfl, ⟨rest, hblk⟩, hbel⟩
  have HBK := hide hblk
  have HBL := hide hbel
  clear hblk hbel
  go_wp2
  go_ret
  refine ⟨_, rest, rfl, HBK.out, HB3.out.size, ?_⟩
  exact (HB3.out.alloc HB3.out.size _).trans (HBL.out.mono HB3.out.size)

set_option maxHeartbeats 400000 in
theorem zzOutside_any (o : Nat) (r : Rn) (ai : Option Addr) (n ci : Nat) (w : World) (ho : w.cell? ⟨o, 14, none⟩ = some (.slice ai n ci)) (hok : r.ok) (hn : n ≤ 4096) :
    Calls Try.prog 23 #[.pointer (some ⟨o, 0, none⟩), .agg #[.int .i64 r.lo, .int .i64 r.hi, .slice r.ad r.len r.cap, .pointer r.of, .bool r.comp]] w fun e w' =>
      ∃ g rest, e = .returned (.slice (some ⟨g, 0, none⟩) (kept (outs r n)).length 3) ∧ Blk w' g 37 (flat (kept (outs r n)) ++ rest) ∧ w.heap.size ≤ g ∧ Below w.heap.size w w' := by
  have ho' : ∀ x, (w.alloc x).cell? ⟨o, 14, none⟩ = some (.slice ai n ci) := fun x => by rw [World.cell?_alloc_lt w x ⟨o, 14, none⟩ (World.block_lt_of_cell? w _ ho)]; exact ho
  have HO := hide ho'
  have HOK := hide hok
  clear hok ho ho'
  go_enter Try.func23, Try.ntmps23
  go_wp2_with fail
  refine (outside_any o r ai n ci _ (HO.out _) HOK.out hn).mono ?_
  rintro e w1 ⟨g, rest, rfl, hblk, hg, hbel⟩
  have HBK := hide hblk
  have HBL := hide hbel
  have HG := hide hg
  clear hblk hbel hg
  go_wp2
  go_ret
  refine ⟨g, rest, rfl, HBK.out, by have := HG.out; simp at this; omega, ((Below.refl _ _).alloc (Nat.le_refl _) _).trans (HBL.out.mono (by simp))⟩

end Go.Proofs.Qxb6615808a
