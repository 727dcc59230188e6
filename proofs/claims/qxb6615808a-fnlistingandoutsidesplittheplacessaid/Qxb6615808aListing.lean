/-
  The walks of 'ZZnoList' (14), 'ZZnewList' (15), '(*Organization).listing' (31), 'ZZlisting' (16).
-/
import Derived.Test.Qxb6615808aStruct
import Derived.LaidEql
namespace Go.Proofs.Qxb6615808a
open Go.RowKit

theorem noList_any (w : World) : Calls Try.prog 14 #[] w fun e w' => e = .returned (.pointer none) ∧ w' = w := by
  go_enter Try.func14, Try.ntmps14
  go_wp2
  go_ret
  exact ⟨rfl, rfl⟩
theorem newList_any (ad : Option Addr) (len cap : Nat) (w : World) : Calls Try.prog 15 #[.slice ad len cap] w fun e w' => e = .returned (.pointer (some ⟨w.heap.size, 0, none⟩)) ∧ w'.cell? ⟨w.heap.size, 0, none⟩ = some (.slice ad len cap) ∧ Below w.heap.size w w' ∧ w.heap.size < w'.heap.size := by
  go_enter Try.func15, Try.ntmps15
  go_wp2
  go_ret
  exact ⟨rfl, by simp, (Below.refl _ _).alloc (Nat.le_refl _) _, by simp⟩

set_option maxHeartbeats 400000 in
theorem listing_nil (o : Nat) (ai : Option Addr) (n ci : Nat) (w : World) (ho : w.cell? ⟨o, 14, none⟩ = some (.slice ai n ci)) :
    Calls Try.prog 31 #[.pointer (some ⟨o, 0, none⟩), .pointer none] w fun e w' => e = .returned (.agg #[.int .i64 0, .int .i64 (n : Int), .slice none 0 0, .pointer none, .bool false]) ∧ Below w.heap.size w w' := by
  have ho' : ∀ x, (w.alloc x).cell? ⟨o, 14, none⟩ = some (.slice ai n ci) := fun x => by rw [World.cell?_alloc_lt w x ⟨o, 14, none⟩ (World.block_lt_of_cell? w _ ho)]; exact ho
  go_enter Try.func31, Try.ntmps31
  go_wp2
  exact bodyPost_ret (v := .agg #[.int .i64 0, .int .i64 (n : Int), .slice none 0 0, .pointer none, .bool false]) (by simp [results, Try.results31, go_sem]) rfl ⟨rfl, ((Below.refl _ _).alloc (Nat.le_refl _) _).alloc (by simp) _⟩
set_option maxHeartbeats 400000 in
theorem listing_some (o b : Nat) (ad : Option Addr) (len cap : Nat) (ai : Option Addr) (n ci : Nat) (w : World) (ho : w.cell? ⟨o, 14, none⟩ = some (.slice ai n ci)) (hb : w.cell? ⟨b, 0, none⟩ = some (.slice ad len cap)) :
    Calls Try.prog 31 #[.pointer (some ⟨o, 0, none⟩), .pointer (some ⟨b, 0, none⟩)] w fun e w' => e = .returned (.agg #[.int .i64 0, .int .i64 (n : Int), .slice ad len cap, .pointer (some ⟨b, 0, none⟩), .bool false]) ∧ Below w.heap.size w w' := by
  have ho' : ∀ x, (w.alloc x).cell? ⟨o, 14, none⟩ = some (.slice ai n ci) := fun x => by rw [World.cell?_alloc_lt w x ⟨o, 14, none⟩ (World.block_lt_of_cell? w _ ho)]; exact ho
  have hb' : ∀ x y, ((w.alloc x).alloc y).cell? ⟨b, 0, none⟩ = some (.slice ad len cap) := fun x y => by rw [World.cell?_alloc_lt _ y ⟨b, 0, none⟩ (by simp; have := World.block_lt_of_cell? w _ hb; simp at this; omega), World.cell?_alloc_lt w x ⟨b, 0, none⟩ (World.block_lt_of_cell? w _ hb)]; exact hb
  go_enter Try.func31, Try.ntmps31
  go_wp2
  exact bodyPost_ret (v := .agg #[.int .i64 0, .int .i64 (n : Int), .slice ad len cap, .pointer (some ⟨b, 0, none⟩), .bool false]) (by simp [results, Try.results31, go_sem]) rfl ⟨rfl, ((Below.refl _ _).alloc (Nat.le_refl _) _).alloc (by simp) _⟩

set_option maxHeartbeats 400000 in
theorem zzListing_nil (o : Nat) (ai : Option Addr) (n ci : Nat) (w : World) (ho : w.cell? ⟨o, 14, none⟩ = some (.slice ai n ci)) :
    Calls Try.prog 16 #[.pointer (some ⟨o, 0, none⟩), .pointer none] w fun e w' => e = .returned (.agg #[.int .i64 0, .int .i64 (n : Int), .slice none 0 0, .pointer none, .bool false]) ∧ Below w.heap.size w w' := by
  have ho' : ∀ x, (w.alloc x).cell? ⟨o, 14, none⟩ = some (.slice ai n ci) := fun x => by rw [World.cell?_alloc_lt w x ⟨o, 14, none⟩ (World.block_lt_of_cell? w _ ho)]; exact ho
  have HO := hide ho'
  clear ho ho'
  go_enter Try.func16, Try.ntmps16
  go_wp2_with fail
  refine (listing_nil o ai n ci _ (HO.out _)).mono ?_
  rintro e w1 ⟨rfl, hb1⟩
  obtain ⟨hc, hf⟩ := bcell hb1
  have hz : w.heap.size < w1.heap.size := by have := hb1.size; simp at this; omega
  have HB := hide hb1
  clear hb1 HO
  go_wp2
  exact bodyPost_ret (v := .agg #[.int .i64 0, .int .i64 (n : Int), .slice none 0 0, .pointer none, .bool false]) (by simp [results, Try.results16, go_sem, hc]) rfl ⟨rfl, below_set5 (((Below.refl _ _).alloc (Nat.le_refl _) _).trans (HB.out.mono (by simp))) (Nat.le_refl _) _ _ _ _ _⟩
set_option maxHeartbeats 400000 in
theorem zzListing_some (o b : Nat) (ad : Option Addr) (len cap : Nat) (ai : Option Addr) (n ci : Nat) (w : World) (ho : w.cell? ⟨o, 14, none⟩ = some (.slice ai n ci)) (hb : w.cell? ⟨b, 0, none⟩ = some (.slice ad len cap)) :
    Calls Try.prog 16 #[.pointer (some ⟨o, 0, none⟩), .pointer (some ⟨b, 0, none⟩)] w fun e w' => e = .returned (.agg #[.int .i64 0, .int .i64 (n : Int), .slice ad len cap, .pointer (some ⟨b, 0, none⟩), .bool false]) ∧ Below w.heap.size w w' := by
  have ho' : ∀ x, (w.alloc x).cell? ⟨o, 14, none⟩ = some (.slice ai n ci) := fun x => by rw [World.cell?_alloc_lt w x ⟨o, 14, none⟩ (World.block_lt_of_cell? w _ ho)]; exact ho
  have hb' : ∀ x, (w.alloc x).cell? ⟨b, 0, none⟩ = some (.slice ad len cap) := fun x => by rw [World.cell?_alloc_lt w x ⟨b, 0, none⟩ (World.block_lt_of_cell? w _ hb)]; exact hb
  have HO := hide ho'
  have HBB := hide hb'
  clear ho ho' hb hb'
  go_enter Try.func16, Try.ntmps16
  go_wp2_with fail
  refine (listing_some o b ad len cap ai n ci _ (HO.out _) (HBB.out _)).mono ?_
  rintro e w1 ⟨rfl, hb1⟩
  obtain ⟨hc, hf⟩ := bcell hb1
  have hz : w.heap.size < w1.heap.size := by have := hb1.size; simp at this; omega
  have HB := hide hb1
  clear hb1 HO HBB
  go_wp2
  exact bodyPost_ret (v := .agg #[.int .i64 0, .int .i64 (n : Int), .slice ad len cap, .pointer (some ⟨b, 0, none⟩), .bool false]) (by simp [results, Try.results16, go_sem, hc]) rfl ⟨rfl, below_set5 (((Below.refl _ _).alloc (Nat.le_refl _) _).trans (HB.out.mono (by simp))) (Nat.le_refl _) _ _ _ _ _⟩

end Go.Proofs.Qxb6615808a
