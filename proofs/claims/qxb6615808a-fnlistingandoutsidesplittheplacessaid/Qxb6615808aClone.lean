/-
  The walks of 'zzCloneStrings' (11) and 'zzCloneInts' (12).
-/
import Derived.Test.Qxb6615808aMem
namespace Go.Proofs.Qxb6615808a
open Go.RowKit

/-- The slice's numbers lie in a block of the call's own, or there is none. -/
def Own (w : World) (lo : Nat) (ad : Option Addr) (len : Nat) (zs : List Int) : Prop :=
  (ad = none ∧ len = 0) ∨ ∃ g l, lo ≤ g ∧ ad = some ⟨g, 0, none⟩ ∧ Blk w g 3 (ints l) ∧ l.length = len ∧ ∀ i, i < len → l.getD i 0 = zs.getD i 0

theorem Own.ats {w : World} {lo : Nat} {ad : Option Addr} {len : Nat} {zs : List Int} (h : Own w lo ad len zs) : Ats w ad len zs := by
  intro hp
  rcases h with ⟨_, h⟩ | ⟨g, l, _, rfl, hb, hl, hz⟩
  · omega
  · refine ⟨g, 0, rfl, fun i hi => ?_⟩
    rw [Nat.zero_add, hb.cell, ints_get _ _ (by omega), hz i hi]

theorem Own.below {B : Nat} {w w' : World} {lo : Nat} {ad : Option Addr} {len : Nat} {zs : List Int} (h : Own w lo ad len zs) (hb : Below B w w') (hB : w.heap.size ≤ B) : Own w' lo ad len zs := by
  rcases h with h | ⟨g, l, h1, h2, h3, h4⟩
  · exact .inl h
  · exact .inr ⟨g, l, h1, h2, h3.below hb (by have := h3.lt; omega), h4⟩

theorem Ats.at {w : World} {ad : Addr} {len : Nat} {zs : List Int} (h : Ats w (some ad) len zs) (k : Nat) (hk : k < len) : ∃ b off, ad = ⟨b, off, none⟩ ∧ b < w.heap.size ∧ w.cell? ⟨b, off + k, none⟩ = some (.int .i64 (zs.getD k 0)) := by
  obtain ⟨b, off, h1, h2⟩ := h (by omega)
  cases h1
  exact ⟨b, off, rfl, World.block_lt_of_cell? w _ (h2 k hk), h2 k hk⟩

set_option maxHeartbeats 400000 in
theorem cloneInts_some (ad : Addr) (len cap : Nat) (zs : List Int) (w : World) (hm : len ≤ 4096) (h : Ats w (some ad) len zs) :
    Calls Try.prog 12 #[.slice (some ad) len cap] w fun e w' => e = .returned (.slice (some ⟨w.heap.size, 0, none⟩) len len) ∧ Blk w' w.heap.size 3 (ints (copied zs len len)) ∧ Below w.heap.size w w' := by
  have q22 : ∀ (w : World) (a : Option Addr) (n c n' c' : Nat), (binOp .eql 23 (.slice a n c) (.slice none n' c')).run Try.prog w = .ok (.bool a.isNone) w := fun w a n c n' c' => Lib.run_eql_slice_nil w _ _ a n c n' c' Try.underlying23
  obtain ⟨i0, hi, hz0, hz1, hz2⟩ := info_parts Try.info3
  have HH := hide h
  clear h
  go_enter Try.func12, Try.ntmps12
  go_wp2_with (at_make; refine wpList_make_blk _ rfl _ _ 23 rfl 3 i0 (.int .i64 0) Try.underlying23 hi hz0 hz1 rfl _ _ _ _ len rfl rfl rfl rfl (by rw [hz2]; omega) (by omega) ?_; intro w1 hb1 hbel1 hsz1)
  have HB := hide hb1
  have HL := hide hbel1
  clear hb1 hbel1 hsz1 q22 hi hz0 hz1 hz2
  go_wp2
  go_loopw [4] (fun i wr => ∃ k : Nat, k ≤ len ∧ i = .int .i64 k ∧ Blk wr w.heap.size 3 (ints (copied zs len k)) ∧ Below w.heap.size w wr) (fun i _ => len - (intOf i).toNat)
  case atStart => exact ⟨0, Nat.zero_le _, rfl, by rw [copied_zero, ← ints_replicate]; exact HB.out, HL.out⟩
  case round =>
    obtain ⟨k, hk, rfl, hblk, hbel⟩ := hrel
    by_cases hlt : k < len
    · obtain ⟨x, hx⟩ : ∃ x, x = zs.getD k 0 := ⟨_, rfl⟩
      obtain ⟨b, off, rfl, hB, hc⟩ := HH.out.at k hlt
      have hcell : wr.cell? ⟨b, off + k, none⟩ = some (.int .i64 x) := by rw [hx, hbel.cell (p := ⟨b, off + k, none⟩) hB]; exact hc
      have hset := hblk.set k (.int .i64 x)
      rw [ints_set, hx, copied_succ, ← hx] at hset
      have HS2 := hide hset
      have HBL := hide hbel
      have hold : wr.cell? ⟨w.heap.size, k, none⟩ = some (.int .i64 ((copied zs len k).getD k 0)) := by rw [hblk.cell, ints_get _ _ (by rw [copied_length]; exact hlt)]
      have hfree := hblk.free k
      clear hset hx hblk hbel hc
      go_wp2
      go_roundw
      case rel => exact ⟨k + 1, by omega, by go_num, HS2.out, HBL.out.setCell (Nat.le_refl _) _⟩
      case measure => simp [intOf]; omega
    · have HBK := hide hblk
      have HBL := hide hbel
      clear hblk hbel
      go_wp2
      go_ret
      obtain rfl : k = len := by omega
      exact ⟨rfl, HBK.out, HBL.out⟩

theorem cloneInts_any (ad : Option Addr) (len cap : Nat) (zs : List Int) (w : World) (hm : len ≤ 4096) (hn : ad = none → len = 0) (h : Ats w ad len zs) :
    Calls Try.prog 12 #[.slice ad len cap] w fun e w' => ∃ ad', e = .returned (.slice ad' len len) ∧ Own w' w.heap.size ad' len zs ∧ Below w.heap.size w w' := by
  cases ad with
  | some x => exact (cloneInts_some x len cap zs w hm h).mono fun e w' ⟨h1, h2, h3⟩ => ⟨_, h1, .inr ⟨_, _, Nat.le_refl _, rfl, h2, copied_length _ _ _, fun i hi => copied_get _ _ _ _ hi hi⟩, h3⟩
  | none =>
    obtain rfl := hn rfl
    have q22 : ∀ (w : World) (a : Option Addr) (n c n' c' : Nat), (binOp .eql 23 (.slice a n c) (.slice none n' c')).run Try.prog w = .ok (.bool a.isNone) w := fun w a n c n' c' => Lib.run_eql_slice_nil w _ _ a n c n' c' Try.underlying23
    clear h hn
    go_enter Try.func12, Try.ntmps12
    go_wp2
    go_ret
    exact ⟨none, rfl, .inl ⟨rfl, rfl⟩, Below.refl _ _⟩

set_option maxHeartbeats 400000 in
theorem cloneStrs_some (ad : Addr) (len cap : Nat) (w : World) (hm : len ≤ 4096) (h : Strs w (some ad) len) :
    Calls Try.prog 11 #[.slice (some ad) len cap] w fun e w' => e = .returned (.slice (some ⟨w.heap.size, 0, none⟩) len len) ∧ Below w.heap.size w w' := by
  have q22 : ∀ (w : World) (a : Option Addr) (n c n' c' : Nat), (binOp .eql 22 (.slice a n c) (.slice none n' c')).run Try.prog w = .ok (.bool a.isNone) w := fun w a n c n' c' => Lib.run_eql_slice_nil w _ _ a n c n' c' Try.underlying22
  obtain ⟨i0, hi, hz0, hz1, hz2⟩ := info_parts Try.info9
  have HH := hide h
  clear h
  go_enter Try.func11, Try.ntmps11
  go_wp2_with (at_make; refine wpList_make_blk _ rfl _ _ 22 rfl 9 i0 (.string ⟨#[]⟩) Try.underlying22 hi hz0 hz1 rfl _ _ _ _ len rfl rfl rfl rfl (by rw [hz2]; omega) (by omega) ?_; intro w1 hb1 hbel1 hsz1)
  have HB := hide hb1
  have HL := hide hbel1
  clear hb1 hbel1 hsz1 q22 hi hz0 hz1 hz2
  go_wp2
  go_loopw [4] (fun i wr => ∃ (k : Nat) (l : List ByteArray), k ≤ len ∧ i = .int .i64 k ∧ l.length = len ∧ Blk wr w.heap.size 9 (l.map Value.string) ∧ Below w.heap.size w wr) (fun i _ => len - (intOf i).toNat)
  case atStart => exact ⟨0, List.replicate len ⟨#[]⟩, Nat.zero_le _, rfl, by simp, by rw [List.map_replicate]; exact HB.out, HL.out⟩
  case round =>
    obtain ⟨k, l, hk, rfl, hll, hblk, hbel⟩ := hrel
    by_cases hlt : k < len
    · obtain ⟨b, off, h1, h2⟩ := HH.out (by omega)
      cases h1
      obtain ⟨s, hs, hc⟩ := h2 k hlt
      have hcell : wr.cell? ⟨b, off + k, none⟩ = some (.string s) := by rw [hbel.cell (p := ⟨b, off + k, none⟩) (World.block_lt_of_cell? w _ hc)]; exact hc
      have hset := hblk.set k (.string s)
      rw [← List.map_set] at hset
      have HS2 := hide hset
      have HBL := hide hbel
      have HLL := hide hll
      obtain ⟨old, hold⟩ : ∃ old, wr.cell? ⟨w.heap.size, k, none⟩ = some (.string old) := ⟨l[k]'(by omega), by rw [hblk.cell]; simp [show k < l.length by omega]⟩
      have hfree := hblk.free k
      clear hset hblk hbel hc h2 hll
      go_wp2
      go_roundw
      case rel => exact ⟨k + 1, _, by omega, by go_num, by rw [List.length_set]; exact HLL.out, HS2.out, HBL.out.setCell (Nat.le_refl _) _⟩
      case measure => simp [intOf]; omega
    · have HBL := hide hbel
      clear hblk hbel hll
      go_wp2
      go_ret
      exact ⟨rfl, HBL.out⟩

theorem cloneStrs_any (ad : Option Addr) (len cap : Nat) (w : World) (hm : len ≤ 4096) (hn : ad = none → len = 0) (h : Strs w ad len) :
    Calls Try.prog 11 #[.slice ad len cap] w fun e w' => ∃ ad', e = .returned (.slice ad' len len) ∧ Below w.heap.size w w' := by
  cases ad with
  | some x => exact (cloneStrs_some x len cap w hm h).mono fun e w' ⟨h1, h2⟩ => ⟨_, h1, h2⟩
  | none =>
    obtain rfl := hn rfl
    have q22 : ∀ (w : World) (a : Option Addr) (n c n' c' : Nat), (binOp .eql 22 (.slice a n c) (.slice none n' c')).run Try.prog w = .ok (.bool a.isNone) w := fun w a n c n' c' => Lib.run_eql_slice_nil w _ _ a n c n' c' Try.underlying22
    clear h hn
    go_enter Try.func11, Try.ntmps11
    go_wp2
    go_ret
    exact ⟨none, rfl, Below.refl _ _⟩

end Go.Proofs.Qxb6615808a
