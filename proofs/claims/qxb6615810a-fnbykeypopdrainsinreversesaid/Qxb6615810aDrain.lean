/-
  The walk of 'FnByKeyPopDrainsInReverse' (5).
-/
import Derived.Test.Qxb6615810aKeys
namespace Go.Proofs.Qxb6615810a
open Go.RowKit

set_option maxRecDepth 100000 in
set_option maxHeartbeats 1000000 in
theorem walk5 (a : Option Addr) (len cap : Nat) (zs : List Int) (w : World) (hm : len ≤ 9223372036854775807) (hn : a = none → len = 0) (h : Ats w a len zs) :
    Calls Try.prog 5 #[.slice a len cap] w fun e w' => e = .returned (.bool true) ∧ Below w.heap.size w w' := by
  have HN := hide hn
  have HA := hide h
  clear hn h
  go_enter Try.func5, Try.ntmps5
  go_wp2_with fail
  refine (bytes15_any a len cap _ hm).mono ?_
  rintro e w' ⟨⟨b, rfl⟩, hw⟩
  obtain rfl := hw.symm
  cases b
  · go_wp2
    go_ret
    exact ⟨rfl, Below.refl _ _⟩
  by_cases g0 : 65536 < len
  · go_wp2
    go_ret
    exact ⟨rfl, Below.refl _ _⟩
  go_wp2_with fail
  refine (clone_any a len cap zs w (by omega) HN.out HA.out).mono ?_
  rintro e w1 ⟨c1, rfl, ho1, hb1⟩
  have O1 := hide ho1
  have B1 := hide hb1
  clear ho1 hb1 HN HA
  go_wp2_with fail
  refine (clone_any c1 len len zs w1 (by omega) O1.out.nil O1.out.ats).mono ?_
  rintro e w2 ⟨c2, rfl, ho2, hb2⟩
  have O2 := hide ho2
  have P2 := hide (O1.out.below hb2 (Nat.le_refl _))
  have B2 := hide (B1.out.trans (hb2.mono B1.out.size))
  clear ho2 hb2 O1 B1
  go_wp2_with fail
  refine (newKey_any c2 len len w2).mono ?_
  rintro e w3 ⟨rfl, hc3, hf3, hb3, hs3⟩
  have C3 := hide hc3
  have F3 := hide hf3
  have O3 := hide (O2.out.below hb3 (Nat.le_refl _))
  have P3 := hide ((P2.out.below hb3 (Nat.le_refl _)).ats)
  have PW := hide (P2.out.away (g := w2.heap.size) (.inr (Nat.le_refl _)))
  have OW := hide (O2.out.away (g := w2.heap.size) (.inr (Nat.le_refl _)))
  have B3 := hide (B2.out.trans (hb3.mono B2.out.size))
  have hwb := B2.out.size
  clear hc3 hf3 hb3 O2 P2 B2
  go_wp2
  go_loopw [5] (fun iv wr => ∃ k : Nat, k ≤ len ∧ iv = .int .i64 (k : Int) ∧ wr.cell? ⟨w2.heap.size, 0, none⟩ = some (.slice c2 (len - k) len) ∧ wr.frozen? ⟨w2.heap.size, 0, none⟩ = false ∧ Only w2.heap.size w3 wr) (fun iv _ => len - (intOf iv).toNat)
  case atStart => exact ⟨0, Nat.zero_le _, rfl, C3.out, F3.out, Only.refl _ _⟩
  case round =>
    obtain ⟨k, hk, rfl, hc, hf, ho⟩ := hrel
    have HO := hide ho
    clear ho
    by_cases hlt : k < len
    · rcases O3.out with ⟨_, h0⟩ | ⟨g, l, hg, rfl, hbl, hll, hlz⟩
      · omega
      have hne : g ≠ w2.heap.size := OW.out _ rfl
      rw [show len - k = len - 1 - k + 1 by omega] at hc
      have hx : wr.cell? ⟨g, len - 1 - k, none⟩ = some (.int .i64 (zs.getD (len - 1 - k) 0)) := by
        rw [HO.out.cell (p := ⟨g, len - 1 - k, none⟩) hne, hbl.cell, ints_get _ _ (by omega), hlz _ (by omega)]
      have CP := hide (zzPop_any w2.heap.size g (len - 1 - k) len _ wr hc hf hx (by omega) (by omega))
      clear hc hf hx hbl hll hlz
      go_wp2_with fail
      refine CP.out.mono ?_
      rintro e w4 ⟨rfl, hc4, hf4, ho4⟩
      have hbt := HO.out.trans ho4
      obtain ⟨b, off, rfl, hcs⟩ := (((But.refl w2.heap.size w3).only hbt).ats P3.out PW.out) (by omega)
      have hz := hcs (len - 1 - k) (by omega)
      have HT := hide hbt
      clear CP ho4 hbt hcs HO
      generalize zs.getD (len - 1 - k) 0 = x at hz ⊢
      have t1 : (x != x) = false := by simp
      have t2 : (((len - 1 - k : Nat) : Int) != (len : Int) - 1 - (k : Int)) = false := by simp; omega
      have CN := hide (nodes_any w2.heap.size _ _ _ w4 hc4)
      have HC4 := hide hc4
      clear hc4
      go_wp2_with fail
      refine CN.out.mono ?_
      rintro e w' ⟨rfl, hw⟩
      obtain rfl := hw.symm
      clear CN
      go_wp2
      go_roundw
      case rel => exact ⟨k + 1, by omega, by go_num, by rw [show len - (k + 1) = len - 1 - k by omega]; exact HC4.out, hf4, HT.out⟩
      case measure => simp [intOf]; omega
    · go_wp2
      go_ret
      exact ⟨rfl, B3.out.trans (HO.out.below hwb)⟩

end Go.Proofs.Qxb6615810a
