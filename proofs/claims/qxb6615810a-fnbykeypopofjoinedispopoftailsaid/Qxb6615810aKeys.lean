/-
  The walks of 'cloneIntsB1' (16), 'ZZnewByKey' (17), 'byKey.Pop' (37), 'ZZbyKeyPop' (18), 'ZZbyKeyNodes' (19), 'zzBytes_..' (15, 20).
-/
import Derived.Test.Qxb6615810aBase
import Derived.Deep.QuietTactic
import Derived.BigQuiet
namespace Go.Proofs.Qxb6615810a
open Go.RowKit

theorem Try.info3 : (Try.prog.info? 3).map (fun i => (i.zero, i.size, i.bytes)) = some (some (.int .i64 0), 1, 8) := by kernel_rfl
theorem Try.size3 : (Try.prog.info? 3).map (·.size) = some 1 := by kernel_rfl

/-- The first n numbers of zs. -/
def firstN (zs : List Int) (n : Nat) : List Int := (List.range n).map fun i => zs.getD i 0
theorem firstN_length (zs : List Int) (n : Nat) : (firstN zs n).length = n := by simp [firstN]
theorem firstN_get (zs : List Int) (n i : Nat) (h : i < n) : (firstN zs n).getD i 0 = zs.getD i 0 := by simp [firstN, h]

theorem copy_ints (w : World) (g len cap : Nat) (ad : Addr) (zs : List Int) (hk : Blk w g 3 (List.replicate len (.int .i64 0))) (ha : Ats w (some ad) len zs) :
    ∃ w2, (∀ ty, (Builtin.copy_ #[24, 24] ty #[.slice (some ⟨g, 0, none⟩) len len, .slice (some ad) len cap]).run Try.prog w = .ok (goInt len) w2) ∧ Blk w2 g 3 (ints (firstN zs len)) ∧ Below g w w2 := by
  rcases Nat.eq_zero_or_pos len with rfl | hp
  · exact ⟨w, fun ty => run_copy_none w 24 24 ty 3 _ _ 0 0 0 cap Try.underlying24 Try.size3 rfl, hk, Below.refl _ _⟩
  · obtain ⟨b, off, e, hc⟩ := ha hp
    cases e
    have hl : (ints (firstN zs len)).length = len := by rw [ints_length, firstN_length]
    have hr := fun ty => run_copy_row (P := Try.prog) w 24 24 ty 3 g 0 len len ⟨b, off, none⟩ len cap (List.replicate len (Value.int .i64 0)).toArray 3 (ints (firstN zs len)) Try.underlying24 Try.size3 (show w.heap[g]? = some (.cells (List.replicate len (Value.int .i64 0)).toArray 3 (0, 0)) from hk) (by rw [hl]; exact (Nat.min_self len).symm)
      (fun j v hv => by
        have hj : j < len := by
          have := (List.getElem?_eq_some_iff.1 hv).1
          omega
        rw [ints_get _ _ (by rw [firstN_length]; exact hj), firstN_get _ _ _ hj] at hv
        cases hv
        rw [add_lit]
        exact hc j hj) (by simp [hl]) (fun v hv => by
        simp [ints] at hv
        obtain ⟨x, _, rfl⟩ := hv
        rfl)
    rw [hl] at hr
    have hz : (List.take 0 (List.replicate len (Value.int .i64 0)).toArray.toList ++ ints (firstN zs len) ++ List.drop (0 + len) (List.replicate len (Value.int .i64 0)).toArray.toList) = ints (firstN zs len) := by simp
    rw [hz] at hr
    refine ⟨_, hr, setRow_heap w g _ _ _ _ hk, ⟨rfl, rfl, rfl, by simp [World.setRow], fun k hk => by simp only [World.setRow, Array.getElem?_modify]; rw [if_neg (by omega)]⟩⟩

/-- The slice's numbers lie in a block of the call's own, or there is none. -/
def Own (w : World) (lo : Nat) (ad : Option Addr) (len : Nat) (zs : List Int) : Prop :=
  (ad = none ∧ len = 0) ∨ ∃ g l, lo ≤ g ∧ ad = some ⟨g, 0, none⟩ ∧ Blk w g 3 (ints l) ∧ l.length = len ∧ ∀ i, i < len → l.getD i 0 = zs.getD i 0
theorem Own.ats {w : World} {lo : Nat} {ad : Option Addr} {len : Nat} {zs : List Int} (h : Own w lo ad len zs) : Ats w ad len zs := by
  intro hp
  rcases h with ⟨_, h⟩ | ⟨g, l, _, rfl, hb, hl, hz⟩
  · omega
  · refine ⟨g, 0, rfl, fun i hi => ?_⟩
    rw [Nat.zero_add, hb.cell, ints_get _ _ (by omega), hz i hi]
theorem Own.below {B : Nat} {w w' : World} {lo : Nat} {ad : Option Addr} {len : Nat} {zs : List Int} (h : Own w lo ad len zs) (hb : Below B w w') (hB : w.heap.size ≤ B) : Own w' lo ad len zs := by
  rcases h with h | ⟨g, l, h1, h2, h3, h4⟩
  · exact .inl h
  · exact .inr ⟨g, l, h1, h2, h3.below hb (by have := h3.lt; omega), h4⟩
theorem Own.nil {w : World} {lo : Nat} {ad : Option Addr} {len : Nat} {zs : List Int} (h : Own w lo ad len zs) : ad = none → len = 0 := by
  rintro rfl
  rcases h with ⟨_, h⟩ | ⟨k, l, h1, h2, _⟩
  · exact h
  · cases h2
theorem Own.away {w : World} {lo g : Nat} {ad : Option Addr} {len : Nat} {zs : List Int} (h : Own w lo ad len zs) (hg : g < lo ∨ w.heap.size ≤ g) : Away g ad := by
  intro x hx
  rcases h with ⟨h, _⟩ | ⟨k, l, h1, h2, h3, _⟩
  · rw [h] at hx; cases hx
  · rw [h2] at hx
    cases hx
    have := h3.lt
    show k ≠ g
    omega

set_option maxHeartbeats 400000 in
theorem clone_any (ad : Option Addr) (len cap : Nat) (zs : List Int) (w : World) (hm : len ≤ 65536) (hn : ad = none → len = 0) (h : Ats w ad len zs) :
    Calls Try.prog 16 #[.slice ad len cap] w fun e w' => ∃ ad', e = .returned (.slice ad' len len) ∧ Own w' w.heap.size ad' len zs ∧ Below w.heap.size w w' := by
  have q24 : ∀ (w : World) (a : Option Addr) (n c n' c' : Nat), (binOp .eql 24 (.slice a n c) (.slice none n' c')).run Try.prog w = .ok (.bool a.isNone) w := fun w a n c n' c' => Lib.run_eql_slice_nil w _ _ a n c n' c' Try.underlying24
  cases ad with
  | none =>
    obtain rfl := hn rfl
    clear h hn
    go_enter Try.func16, Try.ntmps16
    go_wp2
    go_ret
    exact ⟨none, rfl, .inl ⟨rfl, rfl⟩, Below.refl _ _⟩
  | some x =>
    obtain ⟨i0, hi, hz0, hz1, hz2⟩ := info_parts Try.info3
    have HH := hide h
    clear h hn
    go_enter Try.func16, Try.ntmps16
    go_wp2_with (at_make; refine wpList_make_blk _ rfl _ _ 24 rfl 3 i0 (.int .i64 0) Try.underlying24 hi hz0 hz1 rfl _ _ _ _ len rfl rfl rfl rfl (by rw [hz2]; omega) (by omega) ?_; intro w1 hb1 hbel1 hsz1; obtain ⟨w2, hrun, hk2, hb2⟩ := copy_ints w1 w.heap.size len cap x zs hb1 (HH.out.below hbel1 (Nat.le_refl _)))
    go_ret
    exact ⟨_, rfl, .inr ⟨w.heap.size, firstN zs len, Nat.le_refl _, rfl, hk2, firstN_length _ _, fun i hi => firstN_get _ _ _ hi⟩, hbel1.trans hb2⟩

theorem bytes15_any (a : Option Addr) (len cap : Nat) (w : World) (hm : len ≤ 9223372036854775807) :
    Calls Try.prog 15 #[.slice a len cap] w fun e w' => RetB e ∧ w' = w := by
  by_cases h1 : 1048576 < len
  · go_enter Try.func15, Try.ntmps15
    go_wp2
    go_ret
    exact ⟨⟨_, rfl⟩, rfl⟩
  · go_enter Try.func15, Try.ntmps15
    go_wp2
    go_ret
    exact ⟨⟨_, rfl⟩, rfl⟩
theorem bytes20_any (a : Option Addr) (len cap : Nat) (a2 : Option Addr) (len2 cap2 : Nat) (w : World) (hm : len ≤ 9223372036854775807) (hm2 : len2 ≤ 9223372036854775807) :
    Calls Try.prog 20 #[.slice a len cap, .slice a2 len2 cap2] w fun e w' => RetB e ∧ w' = w := by
  by_cases h1 : 1048576 < len
  · go_enter Try.func20, Try.ntmps20
    go_wp2
    go_ret
    exact ⟨⟨_, rfl⟩, rfl⟩
  · by_cases h2 : 1048576 < len2
    · go_enter Try.func20, Try.ntmps20
      go_wp2
      go_ret
      exact ⟨⟨_, rfl⟩, rfl⟩
    · go_enter Try.func20, Try.ntmps20
      go_wp2
      all_goals
        go_ret
        exact ⟨⟨_, rfl⟩, rfl⟩

theorem newKey_any (ad : Option Addr) (len cap : Nat) (w : World) : Calls Try.prog 17 #[.slice ad len cap] w fun e w' => e = .returned (.pointer (some ⟨w.heap.size, 0, none⟩)) ∧ w'.cell? ⟨w.heap.size, 0, none⟩ = some (.slice ad len cap) ∧ w'.frozen? ⟨w.heap.size, 0, none⟩ = false ∧ Below w.heap.size w w' ∧ w.heap.size < w'.heap.size := by
  go_enter Try.func17, Try.ntmps17
  go_wp2
  go_ret
  exact ⟨rfl, by simp, by simp, (Below.refl _ _).alloc (Nat.le_refl _) _, by simp⟩

theorem nodes_any (h : Nat) (ad : Option Addr) (len cap : Nat) (w : World) (hc : w.cell? ⟨h, 0, none⟩ = some (.slice ad len cap)) : Calls Try.prog 19 #[.pointer (some ⟨h, 0, none⟩)] w fun e w' => e = .returned (.slice ad len cap) ∧ w' = w := by
  go_enter Try.func19, Try.ntmps19
  go_wp2
  go_ret
  exact ⟨rfl, rfl⟩

set_option maxHeartbeats 1000000 in
theorem pop_any (h g m c : Nat) (x : Int) (w : World) (hc : w.cell? ⟨h, 0, none⟩ = some (.slice (some ⟨g, 0, none⟩) (m + 1) c)) (hf : w.frozen? ⟨h, 0, none⟩ = false) (hx : w.cell? ⟨g, m, none⟩ = some (.int .i64 x)) (hm : m + 1 ≤ c) (hcm : c ≤ 1048576) :
    Calls Try.prog 37 #[.pointer (some ⟨h, 0, none⟩)] w fun e w' => e = .returned (.iface 3 (.int .i64 x)) ∧ w'.cell? ⟨h, 0, none⟩ = some (.slice (some ⟨g, 0, none⟩) m c) ∧ w'.frozen? ⟨h, 0, none⟩ = false ∧ Only h w w' := by
  have b1 : (m : Int) < ((m + 1 : Nat) : Int) := by omega
  have b2 : (0 : Int) ≤ (m : Int) := by omega
  have b3 : (m : Int) ≤ (c : Int) := by omega
  go_enter Try.func37, Try.ntmps37
  go_wp2
  go_quiet (fail)
  go_wp2
  go_region
  go_wp2
  go_ret
  exact ⟨rfl, World.cell?_setCell_same _ _ _ (show (w.drewN _).cell? _ = _ from hc), by simp [hf], ((Only.refl h w).drewN _).setCell 0 _⟩

theorem as3 (v : Value) (w : World) : (Instr.typeAssert (.iface 3 v) 20 3 true).run Try.prog w = .ok (.tuple #[v, .bool true]) w := by kernel_rfl

set_option maxHeartbeats 400000 in
theorem zzPop_any (h g m c : Nat) (x : Int) (w : World) (hc : w.cell? ⟨h, 0, none⟩ = some (.slice (some ⟨g, 0, none⟩) (m + 1) c)) (hf : w.frozen? ⟨h, 0, none⟩ = false) (hx : w.cell? ⟨g, m, none⟩ = some (.int .i64 x)) (hm : m + 1 ≤ c) (hcm : c ≤ 1048576) :
    Calls Try.prog 18 #[.pointer (some ⟨h, 0, none⟩)] w fun e w' => e = .returned (.tuple #[.int .i64 x, .bool true]) ∧ w'.cell? ⟨h, 0, none⟩ = some (.slice (some ⟨g, 0, none⟩) m c) ∧ w'.frozen? ⟨h, 0, none⟩ = false ∧ Only h w w' := by
  have CP := hide (pop_any h g m c x w hc hf hx hm hcm)
  clear hc hf hx
  go_enter Try.func18, Try.ntmps18
  go_wp2_with fail
  refine CP.out.mono ?_
  rintro e w1 ⟨rfl, h1, h2, h3⟩
  have H1 := hide h1
  have H2 := hide h2
  have H3 := hide h3
  clear h1 h2 h3 CP
  have ha := as3
  go_wp2
  go_ret2
  exact ⟨rfl, H1.out, H2.out, H3.out⟩

end Go.Proofs.Qxb6615810a
