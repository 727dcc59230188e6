/-
  The walks of the functions that read the ids alone: 'zzBytes_..' (7, 25, 27, 29), 'zzStrBytes' (8), 'zzDistinct' (9).
-/
import Derived.Test.Qxb6615808aAsc
namespace Go.Proofs.Qxb6615808a
open Go.RowKit

/-- It returns one bool or the other. -/
def RetB (e : Ending) : Prop := ∃ b : Bool, e = .returned (.bool b)
theorem hide {p : Prop} (h : p) : Hid p := h

/-- The slice's 'len' strings lie in memory. -/
def Strs (w : World) (ad : Option Addr) (len : Nat) : Prop :=
  0 < len → ∃ b off, ad = some ⟨b, off, none⟩ ∧ ∀ i, i < len → ∃ s : ByteArray, s.size ≤ 9223372036854775807 ∧ w.cell? ⟨b, off + i, none⟩ = some (.string s)

set_option maxHeartbeats 400000 in
theorem strBytes_any (ad : Option Addr) (len cap : Nat) (w : World) (hm : len ≤ 9223372036854775807) (h : Strs w ad len) :
    Calls Try.prog 8 #[.slice ad len cap, .int .i64 1048576] w fun e w' => ∃ u : Int, e = .returned (.int .i64 u) ∧ 0 ≤ u ∧ u ≤ 1048577 ∧ w' = w := by
  go_enter Try.func8, Try.ntmps8
  go_wp2
  go_loop [5, 6] (fun used i => ∃ (k : Nat) (u : Int), k ≤ len ∧ i = .int .i64 k ∧ used = .int .i64 u ∧ 0 ≤ u ∧ u ≤ 1048576) (fun _ i => len - (intOf i).toNat)
  case atStart => exact ⟨0, 0, Nat.zero_le _, rfl, rfl, by omega, by omega⟩
  case round =>
    obtain ⟨k, u, hk, rfl, rfl, hu0, hu1⟩ := hrel
    by_cases hlt : k < len
    · obtain ⟨b, off, rfl, hc⟩ := h (by omega)
      obtain ⟨s, hs, hcell⟩ := hc k hlt
      clear hc h
      by_cases h1 : 1048576 - u < 16
      · go_wp2
        go_ret
        exact ⟨_, rfl, by omega, by omega, rfl⟩
      · by_cases h2 : 1048576 - u - 16 < (s.size : Int)
        · go_wp2
          go_ret
          exact ⟨_, rfl, by omega, by omega, rfl⟩
        · go_wp2
          go_round
          case rel => exact ⟨k + 1, _, by omega, by go_num, rfl, by omega, by omega⟩
          case measure => simp [intOf]; omega
    · clear h
      go_wp2
      go_ret
      exact ⟨u, rfl, by omega, by omega, rfl⟩

set_option maxHeartbeats 400000 in
theorem distinct_any (ad : Option Addr) (len cap : Nat) (w : World) (hm : len ≤ 9223372036854775807) (h : Strs w ad len) :
    Calls Try.prog 9 #[.slice ad len cap] w fun e w' => RetB e ∧ ∃ n, w' = w.drewN n := by
  go_enter Try.func9, Try.ntmps9
  go_wp2
  go_loopw [3] (fun i wr => ∃ k n : Nat, k ≤ len ∧ i = .int .i64 k ∧ wr = w.drewN n) (fun i _ => len - (intOf i).toNat)
  case atStart => exact ⟨0, 0, Nat.zero_le _, rfl, rfl⟩
  case round =>
    obtain ⟨k, n, hk, rfl, hwr⟩ := hrel
    subst hwr
    by_cases hlt : k < len
    · obtain ⟨b, off, rfl, hc⟩ := h (by omega)
      obtain ⟨s, hs, hcell⟩ := hc k hlt
      have HC := hide hc
      clear hc h
      go_wp2
      go_loopw [4] (fun i wr => ∃ k n : Nat, k ≤ len ∧ i = .int .i64 k ∧ wr = w.drewN n) (fun i _ => len - (intOf i).toNat)
      case atStart => exact ⟨k + 1, _, by omega, by go_num, rfl⟩
      case round =>
        obtain ⟨j, n, hj, rfl, hwr⟩ := hrel
        subst hwr
        by_cases hlt2 : j < len
        · obtain ⟨s2, hs2, hcell2⟩ := HC.out j hlt2
          have b1 : (k : Int) < (len : Int) := by omega
          have b2 : (j : Int) < (len : Int) := by omega
          go_wp2
          go_quiet (fail)
          go_wp2
          · go_ret
            exact ⟨⟨_, rfl⟩, _, by rw [World.drewN_drewN]⟩
          · go_roundw
            case rel => exact ⟨j + 1, _, by omega, by go_num, rfl⟩
            case measure => simp [intOf]; omega
        · go_wp2
          go_roundw
          case rel => exact ⟨k + 1, _, by omega, by go_num, rfl⟩
          case measure => simp [intOf]; omega
    · clear h
      go_wp2
      go_ret
      exact ⟨⟨_, rfl⟩, _, rfl⟩

set_option maxHeartbeats 400000 in
theorem bytes7_any (ad : Option Addr) (len cap : Nat) (a2 : Option Addr) (len2 cap2 : Nat) (hl : Bool) (w : World) (hm : len ≤ 9223372036854775807) (hm2 : len2 ≤ 9223372036854775807) (h : Strs w ad len) :
    Calls Try.prog 7 #[.slice ad len cap, .slice a2 len2 cap2, .bool hl] w fun e w' => RetB e ∧ w' = w := by
  by_cases h1 : 1048576 < len
  · clear h
    go_enter Try.func7, Try.ntmps7
    go_wp2
    go_ret
    exact ⟨⟨_, rfl⟩, rfl⟩
  go_enter Try.func7, Try.ntmps7
  go_wp2
  go_loop [7, 8] (fun used i => ∃ (k : Nat) (u : Int), k ≤ len ∧ i = .int .i64 k ∧ used = .int .i64 u ∧ 0 ≤ u ∧ u ≤ 1048576) (fun _ i => len - (intOf i).toNat)
  case atStart => exact ⟨0, _, Nat.zero_le _, rfl, rfl, by omega, by omega⟩
  case round =>
    obtain ⟨k, u, hk, rfl, rfl, hu0, hu1⟩ := hrel
    by_cases hlt : k < len
    · obtain ⟨b, off, rfl, hc⟩ := h (by omega)
      obtain ⟨s, hs, hcell⟩ := hc k hlt
      clear hc h
      by_cases g1 : 1048576 < (s.size : Int)
      · go_wp2
        go_ret
        exact ⟨⟨_, rfl⟩, rfl⟩
      · by_cases g2 : 1048576 < u + (s.size : Int)
        · go_wp2
          go_ret
          exact ⟨⟨_, rfl⟩, rfl⟩
        · go_wp2
          go_round
          case rel => exact ⟨k + 1, _, by omega, by go_num, rfl, by omega, by omega⟩
          case measure => simp [intOf]; omega
    · clear h
      by_cases g1 : 1048576 < len2
      · go_wp2
        go_ret
        exact ⟨⟨_, rfl⟩, rfl⟩
      · go_wp2
        all_goals
          go_ret
          exact ⟨⟨_, rfl⟩, rfl⟩

set_option maxHeartbeats 400000 in
theorem bytes25_any (ad : Option Addr) (len cap : Nat) (a2 : Option Addr) (len2 cap2 : Nat) (hl : Bool) (w : World) (hm : len ≤ 9223372036854775807) (hm2 : len2 ≤ 9223372036854775807) (h : Strs w ad len) :
    Calls Try.prog 25 #[.slice ad len cap, .slice a2 len2 cap2, .bool hl] w fun e w' => RetB e ∧ w' = w := by
  by_cases h1 : 1048576 < len
  · clear h
    go_enter Try.func25, Try.ntmps25
    go_wp2
    go_ret
    exact ⟨⟨_, rfl⟩, rfl⟩
  go_enter Try.func25, Try.ntmps25
  go_wp2
  go_loop [7, 8] (fun used i => ∃ (k : Nat) (u : Int), k ≤ len ∧ i = .int .i64 k ∧ used = .int .i64 u ∧ 0 ≤ u ∧ u ≤ 1048576) (fun _ i => len - (intOf i).toNat)
  case atStart => exact ⟨0, _, Nat.zero_le _, rfl, rfl, by omega, by omega⟩
  case round =>
    obtain ⟨k, u, hk, rfl, rfl, hu0, hu1⟩ := hrel
    by_cases hlt : k < len
    · obtain ⟨b, off, rfl, hc⟩ := h (by omega)
      obtain ⟨s, hs, hcell⟩ := hc k hlt
      clear hc h
      by_cases g1 : 1048576 < (s.size : Int)
      · go_wp2
        go_ret
        exact ⟨⟨_, rfl⟩, rfl⟩
      · by_cases g2 : 1048576 < u + (s.size : Int)
        · go_wp2
          go_ret
          exact ⟨⟨_, rfl⟩, rfl⟩
        · go_wp2
          go_round
          case rel => exact ⟨k + 1, _, by omega, by go_num, rfl, by omega, by omega⟩
          case measure => simp [intOf]; omega
    · clear h
      by_cases g1 : 1048576 < len2
      · go_wp2
        go_ret
        exact ⟨⟨_, rfl⟩, rfl⟩
      · go_wp2
        all_goals
          go_ret
          exact ⟨⟨_, rfl⟩, rfl⟩

set_option maxHeartbeats 400000 in
theorem bytes27_any (ad : Option Addr) (len cap : Nat) (lo hi : Int) (a2 : Option Addr) (len2 cap2 : Nat) (hl : Bool) (w : World) (hm : len ≤ 9223372036854775807) (hm2 : len2 ≤ 9223372036854775807) (h : Strs w ad len) :
    Calls Try.prog 27 #[.slice ad len cap, .int .i64 lo, .int .i64 hi, .slice a2 len2 cap2, .bool hl] w fun e w' => RetB e ∧ w' = w := by
  by_cases h1 : 1048576 < len
  · clear h
    go_enter Try.func27, Try.ntmps27
    go_wp2
    go_ret
    exact ⟨⟨_, rfl⟩, rfl⟩
  go_enter Try.func27, Try.ntmps27
  go_wp2
  go_loop [11, 12] (fun used i => ∃ (k : Nat) (u : Int), k ≤ len ∧ i = .int .i64 k ∧ used = .int .i64 u ∧ 0 ≤ u ∧ u ≤ 1048576) (fun _ i => len - (intOf i).toNat)
  case atStart => exact ⟨0, _, Nat.zero_le _, rfl, rfl, by omega, by omega⟩
  case round =>
    obtain ⟨k, u, hk, rfl, rfl, hu0, hu1⟩ := hrel
    by_cases hlt : k < len
    · obtain ⟨b, off, rfl, hc⟩ := h (by omega)
      obtain ⟨s, hs, hcell⟩ := hc k hlt
      clear hc h
      by_cases g1 : 1048576 < (s.size : Int)
      · go_wp2
        go_ret
        exact ⟨⟨_, rfl⟩, rfl⟩
      · by_cases g2 : 1048576 < u + (s.size : Int)
        · go_wp2
          go_ret
          exact ⟨⟨_, rfl⟩, rfl⟩
        · go_wp2
          go_round
          case rel => exact ⟨k + 1, _, by omega, by go_num, rfl, by omega, by omega⟩
          case measure => simp [intOf]; omega
    · clear h
      by_cases g1 : 1048576 < len2
      · go_wp2
        go_ret
        exact ⟨⟨_, rfl⟩, rfl⟩
      · go_wp2
        all_goals
          go_ret
          exact ⟨⟨_, rfl⟩, rfl⟩

set_option maxHeartbeats 400000 in
theorem bytes29_any (ad : Option Addr) (len cap : Nat) (lo hi : Int) (a2 : Option Addr) (len2 cap2 : Nat) (hl : Bool) (w : World) (hm : len ≤ 9223372036854775807) (hm2 : len2 ≤ 9223372036854775807) (h : Strs w ad len) :
    Calls Try.prog 29 #[.slice ad len cap, .int .i64 lo, .int .i64 hi, .slice a2 len2 cap2, .bool hl] w fun e w' => RetB e ∧ w' = w := by
  by_cases h1 : 1048576 < len
  · clear h
    go_enter Try.func29, Try.ntmps29
    go_wp2
    go_ret
    exact ⟨⟨_, rfl⟩, rfl⟩
  go_enter Try.func29, Try.ntmps29
  go_wp2
  go_loop [11, 12] (fun used i => ∃ (k : Nat) (u : Int), k ≤ len ∧ i = .int .i64 k ∧ used = .int .i64 u ∧ 0 ≤ u ∧ u ≤ 1048576) (fun _ i => len - (intOf i).toNat)
  case atStart => exact ⟨0, _, Nat.zero_le _, rfl, rfl, by omega, by omega⟩
  case round =>
    obtain ⟨k, u, hk, rfl, rfl, hu0, hu1⟩ := hrel
    by_cases hlt : k < len
    · obtain ⟨b, off, rfl, hc⟩ := h (by omega)
      obtain ⟨s, hs, hcell⟩ := hc k hlt
      clear hc h
      by_cases g1 : 1048576 < (s.size : Int)
      · go_wp2
        go_ret
        exact ⟨⟨_, rfl⟩, rfl⟩
      · by_cases g2 : 1048576 < u + (s.size : Int)
        · go_wp2
          go_ret
          exact ⟨⟨_, rfl⟩, rfl⟩
        · go_wp2
          go_round
          case rel => exact ⟨k + 1, _, by omega, by go_num, rfl, by omega, by omega⟩
          case measure => simp [intOf]; omega
    · clear h
      by_cases g1 : 1048576 < len2
      · go_wp2
        go_ret
        exact ⟨⟨_, rfl⟩, rfl⟩
      · go_wp2
        all_goals
          go_ret
          exact ⟨⟨_, rfl⟩, rfl⟩

end Go.Proofs.Qxb6615808a
