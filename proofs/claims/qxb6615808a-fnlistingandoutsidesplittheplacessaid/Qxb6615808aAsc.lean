/-
  The walk of 'zzAscendingWithin' (function 10).
-/
import Derived.Test.Qxb6615808aRows
import Derived.WalkKit
import Derived.WalkSpells
import Derived.WalkLawsBesides
import Derived.Deep.QuietTactic
import Derived.BigQuiet
namespace Go.Proofs.Qxb6615808a
open Go.RowKit

/-- The first 'len' numbers of zs are strictly ascending, each from lo up to hi. -/
def ascB (zs : List Int) (len : Nat) (lo hi : Int) : Bool :=
  decide (∀ i, i < len → lo ≤ zs.getD i 0 ∧ zs.getD i 0 < hi ∧ (0 < i → zs.getD (i - 1) 0 < zs.getD i 0))

theorem ascB_true {zs : List Int} {len : Nat} {lo hi : Int} (h : ∀ i, i < len → lo ≤ zs.getD i 0 ∧ zs.getD i 0 < hi ∧ (0 < i → zs.getD (i - 1) 0 < zs.getD i 0)) : ascB zs len lo hi = true := decide_eq_true h
theorem ascB_false {zs : List Int} {len : Nat} {lo hi : Int} (k : Nat) (hk : k < len) (h : ¬ (lo ≤ zs.getD k 0 ∧ zs.getD k 0 < hi ∧ (0 < k → zs.getD (k - 1) 0 < zs.getD k 0))) : ascB zs len lo hi = false :=
  decide_eq_false fun g => h (g k hk)

theorem ret_bool {a b : Bool} (h : a = b) : Ending.returned (.bool a) = .returned (.bool b) := by rw [h]

set_option maxHeartbeats 400000 in
theorem asc_some (b off len cap : Nat) (zs : List Int) (lo hi : Int) (w : World) (hm : len ≤ 9223372036854775807)
    (hc : ∀ i, i < len → w.cell? ⟨b, off + i, none⟩ = some (.int .i64 (zs.getD i 0))) :
    Calls Try.prog 10 #[.slice (some ⟨b, off, none⟩) len cap, .int .i64 lo, .int .i64 hi] w fun e w' => e = .returned (.bool (ascB zs len lo hi)) ∧ ∃ n, w' = w.drewN n := by
  go_enter Try.func10, Try.ntmps10
  go_wp2
  go_loopw [7] (fun i wr => ∃ k n : Nat, k ≤ len ∧ i = .int .i64 k ∧ wr = w.drewN n ∧ ∀ j, j < k → lo ≤ zs.getD j 0 ∧ zs.getD j 0 < hi ∧ (0 < j → zs.getD (j - 1) 0 < zs.getD j 0)) (fun i _ => len - (intOf i).toNat)
  case atStart => exact ⟨0, 0, Nat.zero_le _, rfl, rfl, fun _ h => by omega⟩
  case round =>
    obtain ⟨k, n, hk, rfl, hwr, hall⟩ := hrel
    subst hwr
    have HA : Hid (∀ j, j < k → lo ≤ zs.getD j 0 ∧ zs.getD j 0 < hi ∧ (0 < j → zs.getD (j - 1) 0 < zs.getD j 0)) := hall
    clear hall
    by_cases hlt : k < len
    · obtain ⟨x, hx⟩ : ∃ x, x = zs.getD k 0 := ⟨_, rfl⟩
      have hcell : w.cell? ⟨b, off + k, none⟩ = some (.int .i64 x) := by rw [hx]; exact hc k hlt
      have HX : Hid (x = zs.getD k 0) := hx
      clear hx
      by_cases h1 : x < lo
      · clear hc
        go_wp2
        go_ret
        exact ⟨ret_bool (ascB_false k hlt (by rw [← HX.out]; omega)).symm, n, rfl⟩
      · by_cases h2 : hi ≤ x
        · clear hc
          go_wp2
          go_ret
          exact ⟨ret_bool (ascB_false k hlt (by rw [← HX.out]; omega)).symm, n, rfl⟩
        · by_cases h0 : k = 0
          · subst h0
            have hd : decide ((0 : Int) < ((0 : Nat) : Int)) = false := by decide
            rw [Nat.add_zero] at hcell
            clear hc
            go_wp2
            go_quiet (fail)
            go_wp2
            go_roundw
            case rel => exact ⟨1, _, by omega, by go_num, rfl, fun j hj => by
                            obtain rfl : j = 0 := by omega
                            rw [← HX.out]
                            omega⟩
            case measure => simp [intOf]; omega
          · obtain ⟨j, rfl⟩ : ∃ j, k = j + 1 := ⟨k - 1, by omega⟩
            obtain ⟨y, hy⟩ : ∃ y, y = zs.getD j 0 := ⟨_, rfl⟩
            have hcy : w.cell? ⟨b, off + j, none⟩ = some (.int .i64 y) := by rw [hy]; exact hc j (by omega)
            have HY : Hid (y = zs.getD j 0) := hy
            clear hy hc
            have hd : (0 : Int) < ((j + 1 : Nat) : Int) := by omega
            by_cases h3 : x ≤ y
            · go_wp2
              go_quiet (fail)
              go_wp2
              go_ret
              exact ⟨ret_bool (ascB_false (j + 1) hlt (by rw [← HX.out, Nat.add_sub_cancel, ← HY.out]; omega)).symm, _, by rw [World.drewN_drewN]⟩
            · go_wp2
              go_quiet (fail)
              go_wp2
              go_roundw
              case rel => exact ⟨j + 2, _, by omega, by go_num, rfl, fun i hi => by
                            by_cases e : i < j + 1
                            · exact HA.out i e
                            · obtain rfl : i = j + 1 := by omega
                              rw [Nat.add_sub_cancel, ← HX.out, ← HY.out]
                              omega⟩
              case measure => simp [intOf]; omega
    · clear hc
      go_wp2
      go_ret
      exact ⟨ret_bool (ascB_true fun i hi => HA.out i (by omega)).symm, n, rfl⟩

theorem asc_zero (ad : Option Addr) (cap : Nat) (zs : List Int) (lo hi : Int) (w : World) :
    Calls Try.prog 10 #[.slice ad 0 cap, .int .i64 lo, .int .i64 hi] w fun e w' => e = .returned (.bool (ascB zs 0 lo hi)) ∧ ∃ n, w' = w.drewN n := by
  have he : ascB zs 0 lo hi = true := ascB_true fun _ h => by omega
  rw [he]
  clear he
  go_enter Try.func10, Try.ntmps10
  go_wp2
  refine wp_loop_rounds 1 ?_
  rw [rounds_succ]
  go_wp2
  go_ret
  exact ⟨rfl, 0, rfl⟩

/-- The slice's 'len' numbers lie in memory: they are the first of zs. -/
def Ats (w : World) (ad : Option Addr) (len : Nat) (zs : List Int) : Prop :=
  0 < len → ∃ b off, ad = some ⟨b, off, none⟩ ∧ ∀ i, i < len → w.cell? ⟨b, off + i, none⟩ = some (.int .i64 (zs.getD i 0))

theorem asc_any (ad : Option Addr) (len cap : Nat) (zs : List Int) (lo hi : Int) (w : World) (hm : len ≤ 9223372036854775807) (h : Ats w ad len zs) :
    Calls Try.prog 10 #[.slice ad len cap, .int .i64 lo, .int .i64 hi] w fun e w' => e = .returned (.bool (ascB zs len lo hi)) ∧ ∃ n, w' = w.drewN n := by
  rcases Nat.eq_zero_or_pos len with rfl | hp
  · exact asc_zero ad cap zs lo hi w
  · obtain ⟨b, off, rfl, hc⟩ := h hp
    exact asc_some b off len cap zs lo hi w hm hc

end Go.Proofs.Qxb6615808a
