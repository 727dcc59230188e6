/-
  The walks of the small functions on runs and organizations: 13 (ZZnewOrganization), 18 .. 22 (the fields), 32 (len), 34 (inverse), 35 (span), 28 (ZZnewRun), 30 (ZZinverse), 37 (the closure of outside).
-/
import Derived.Test.Qxb6615808aMark
namespace Go.Proofs.Qxb6615808a
open Go.RowKit

theorem bcell {W w1 : World} (hb : Below W.heap.size W w1) : (∀ b o, b < W.heap.size → w1.cell? ⟨b, o, none⟩ = W.cell? ⟨b, o, none⟩) ∧ (∀ b o, b < W.heap.size → w1.frozen? ⟨b, o, none⟩ = W.frozen? ⟨b, o, none⟩) :=
  ⟨fun b o h => hb.cell (p := ⟨b, o, none⟩) h, fun b o h => hb.frozen (p := ⟨b, o, none⟩) h⟩

/-- Five cells of a block from B on are written. -/
theorem below_set5 {B : Nat} {a w : World} (h : Below B a w) {g : Nat} (hg : B ≤ g) (v0 v1 v2 v3 v4 : Value) :
    Below B a (((((w.setCell ⟨g, 0, none⟩ v0).setCell ⟨g, 1, none⟩ v1).setCell ⟨g, 2, none⟩ v2).setCell ⟨g, 3, none⟩ v3).setCell ⟨g, 4, none⟩ v4) :=
  ((((h.setCell hg _).setCell hg _).setCell hg _).setCell hg _).setCell hg _

/-- len of a run. -/
def runLen (lo hi : Int) (len : Nat) (comp : Bool) : Int := if comp then hi - lo - len else len

section
variable (lo hi : Int) (ad : Option Addr) (len cap : Nat) (of : Option Addr) (comp : Bool) (w : World)

theorem runLo_any : Calls Try.prog 18 #[.agg #[.int .i64 lo, .int .i64 hi, .slice ad len cap, .pointer of, .bool comp]] w fun e w' => e = .returned (.int .i64 lo) ∧ Below w.heap.size w w' := by
  go_enter Try.func18, Try.ntmps18
  go_wp2
  go_ret
  exact ⟨rfl, (Below.refl _ _).alloc (Nat.le_refl _) _⟩
theorem runHi_any : Calls Try.prog 19 #[.agg #[.int .i64 lo, .int .i64 hi, .slice ad len cap, .pointer of, .bool comp]] w fun e w' => e = .returned (.int .i64 hi) ∧ Below w.heap.size w w' := by
  go_enter Try.func19, Try.ntmps19
  go_wp2
  go_ret
  exact ⟨rfl, (Below.refl _ _).alloc (Nat.le_refl _) _⟩
theorem runListed_any : Calls Try.prog 20 #[.agg #[.int .i64 lo, .int .i64 hi, .slice ad len cap, .pointer of, .bool comp]] w fun e w' => e = .returned (.slice ad len cap) ∧ Below w.heap.size w w' := by
  go_enter Try.func20, Try.ntmps20
  go_wp2
  go_ret
  exact ⟨rfl, (Below.refl _ _).alloc (Nat.le_refl _) _⟩
theorem runComp_any : Calls Try.prog 21 #[.agg #[.int .i64 lo, .int .i64 hi, .slice ad len cap, .pointer of, .bool comp]] w fun e w' => e = .returned (.bool comp) ∧ Below w.heap.size w w' := by
  go_enter Try.func21, Try.ntmps21
  go_wp2
  go_ret
  exact ⟨rfl, (Below.refl _ _).alloc (Nat.le_refl _) _⟩
theorem len_any (h0 : 0 ≤ lo) (h1 : lo ≤ 4096) (h2 : 0 ≤ hi) (h3 : hi ≤ 4096) (h4 : len ≤ 4096) : Calls Try.prog 32 #[.agg #[.int .i64 lo, .int .i64 hi, .slice ad len cap, .pointer of, .bool comp]] w fun e w' => e = .returned (.int .i64 (runLen lo hi len comp)) ∧ Below w.heap.size w w' := by
  cases comp
  all_goals
    go_enter Try.func32, Try.ntmps32
    go_wp2
    go_ret
    exact ⟨rfl, (Below.refl _ _).alloc (Nat.le_refl _) _⟩
theorem runLen_any (h0 : 0 ≤ lo) (h1 : lo ≤ 4096) (h2 : 0 ≤ hi) (h3 : hi ≤ 4096) (h4 : len ≤ 4096) : Calls Try.prog 22 #[.agg #[.int .i64 lo, .int .i64 hi, .slice ad len cap, .pointer of, .bool comp]] w fun e w' => e = .returned (.int .i64 (runLen lo hi len comp)) ∧ Below w.heap.size w w' := by
  go_enter Try.func22, Try.ntmps22
  go_wp2_with fail
  refine (len_any lo hi ad len cap of comp _ h0 h1 h2 h3 h4).mono ?_
  rintro e w' ⟨rfl, hb⟩
  go_wp2
  go_ret
  exact ⟨rfl, ((Below.refl _ _).alloc (Nat.le_refl _) _).trans (hb.mono (by simp))⟩
theorem del_any (h0 : 0 ≤ lo) (h1 : lo ≤ 4096) (h2 : 0 ≤ hi) (h3 : hi ≤ 4096) (h4 : len ≤ 4096) : Calls Try.prog 37 #[.agg #[.int .i64 lo, .int .i64 hi, .slice ad len cap, .pointer of, .bool comp]] w fun e w' => e = .returned (.bool (runLen lo hi len comp == 0)) ∧ Below w.heap.size w w' := by
  go_enter Try.func37, Try.ntmps37
  go_wp2_with fail
  refine (len_any lo hi ad len cap of comp _ h0 h1 h2 h3 h4).mono ?_
  rintro e w' ⟨rfl, hb⟩
  go_wp2
  go_ret
  exact ⟨rfl, ((Below.refl _ _).alloc (Nat.le_refl _) _).trans (hb.mono (by simp))⟩

theorem inverse_any : Calls Try.prog 34 #[.agg #[.int .i64 lo, .int .i64 hi, .slice ad len cap, .pointer of, .bool comp]] w fun e w' => e = .returned (.agg #[.int .i64 lo, .int .i64 hi, .slice ad len cap, .pointer of, .bool !comp]) ∧ Below w.heap.size w w' := by
  go_enter Try.func34, Try.ntmps34
  go_wp2
  exact bodyPost_ret (v := .agg #[.int .i64 lo, .int .i64 hi, .slice ad len cap, .pointer of, .bool !comp]) (by simp [results, Try.results34, go_sem]) rfl ⟨rfl, ((Below.refl _ _).alloc (Nat.le_refl _) _).alloc (by simp) _⟩
theorem span_any : Calls Try.prog 35 #[.int .i64 lo, .int .i64 hi] w fun e w' => e = .returned (.agg #[.int .i64 lo, .int .i64 hi, .slice none 0 0, .pointer none, .bool true]) ∧ Below w.heap.size w w' := by
  go_enter Try.func35, Try.ntmps35
  go_wp2
  exact bodyPost_ret (v := .agg #[.int .i64 lo, .int .i64 hi, .slice none 0 0, .pointer none, .bool true]) (by simp [results, Try.results35, go_sem]) rfl ⟨rfl, (Below.refl _ _).alloc (Nat.le_refl _) _⟩
theorem newRun_any : Calls Try.prog 28 #[.int .i64 lo, .int .i64 hi, .slice ad len cap, .bool comp] w fun e w' => ∃ of, e = .returned (.agg #[.int .i64 lo, .int .i64 hi, .slice ad len cap, .pointer of, .bool comp]) ∧ Below w.heap.size w w' := by
  go_enter Try.func28, Try.ntmps28
  go_wp2
  exact bodyPost_ret (v := .agg #[.int .i64 lo, .int .i64 hi, .slice ad len cap, .pointer (some ⟨w.heap.size + 1, 0, none⟩), .bool comp]) (by simp [results, Try.results28, go_sem]) rfl ⟨_, rfl, ((Below.refl _ _).alloc (Nat.le_refl _) _).alloc (by simp) _⟩
theorem zzInverse_any : Calls Try.prog 30 #[.agg #[.int .i64 lo, .int .i64 hi, .slice ad len cap, .pointer of, .bool comp]] w fun e w' => e = .returned (.agg #[.int .i64 lo, .int .i64 hi, .slice ad len cap, .pointer of, .bool !comp]) ∧ Below w.heap.size w w' := by
  go_enter Try.func30, Try.ntmps30
  go_wp2_with fail
  refine (inverse_any lo hi ad len cap of comp _).mono ?_
  rintro e w1 ⟨rfl, hb⟩
  obtain ⟨hc, hf⟩ := bcell hb
  have hz : w.heap.size + 1 < w1.heap.size := by have := hb.size; simp at this; omega
  have HB := hide hb
  clear hb
  go_wp2
  exact bodyPost_ret (v := .agg #[.int .i64 lo, .int .i64 hi, .slice ad len cap, .pointer of, .bool !comp]) (by simp [results, Try.results30, go_sem, hc]) rfl ⟨rfl, below_set5 ((((Below.refl _ _).alloc (Nat.le_refl _) _).alloc (by simp) _).trans (HB.out.mono (by simp; omega))) (by omega) _ _ _ _ _⟩
theorem newOrg_any : Calls Try.prog 13 #[.slice ad len cap] w fun e w' => e = .returned (.pointer (some ⟨w.heap.size, 0, none⟩)) ∧ w'.cell? ⟨w.heap.size, 14, none⟩ = some (.slice ad len cap) ∧ Below w.heap.size w w' ∧ w.heap.size < w'.heap.size := by
  go_enter Try.func13, Try.ntmps13
  go_wp2
  go_ret
  exact ⟨rfl, by simp, (Below.refl _ _).alloc (Nat.le_refl _) _, by simp⟩
end

end Go.Proofs.Qxb6615808a
