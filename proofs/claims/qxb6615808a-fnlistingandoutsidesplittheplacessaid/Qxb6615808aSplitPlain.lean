/-
  Plain laws for the split of the places: the marks of 'want'.
-/
import Derived.Test.Qxb6615808aRuns
namespace Go.Proofs.Qxb6615808a
open Go.RowKit

/-- Which of the n places stand among the first k numbers of zs. -/
def wantL (zs : List Int) (n k : Nat) : List Value := (List.range n).map fun p : Nat => Value.bool (inB zs k (p : Int))
theorem wantL_zero (zs : List Int) (n : Nat) : List.replicate n (Value.bool false) = wantL zs n 0 := by
  apply List.ext_getElem
  · simp [wantL]
  · intro i h1 h2
    simp [wantL, inB]
theorem wantL_get (zs : List Int) (n k p : Nat) (h : p < n) : (wantL zs n k)[p]? = some (.bool (inB zs k (p : Int))) := by
  simp [wantL, h]
theorem inB_succ (zs : List Int) (k : Nat) (p : Int) : inB zs (k + 1) p = (inB zs k p || decide (zs.getD k 0 = p)) := by
  rw [Bool.eq_iff_iff]
  simp only [inB, Bool.or_eq_true, decide_eq_true_iff]
  constructor
  · rintro ⟨i, hi, h⟩
    by_cases e : i = k
    · subst e; exact .inr h
    · exact .inl ⟨i, by omega, h⟩
  · rintro (⟨i, hi, h⟩ | h)
    · exact ⟨i, by omega, h⟩
    · exact ⟨k, by omega, h⟩
theorem wantL_set (zs : List Int) (n k m : Nat) (h : zs.getD k 0 = (m : Int)) : (wantL zs n k).set m (.bool true) = wantL zs n (k + 1) := by
  apply List.ext_getElem
  · simp [wantL]
  · intro i h1 h2
    rw [List.getElem_set]
    simp only [wantL, List.getElem_map, List.getElem_range, inB_succ, h]
    split
    · next e => subst e; simp
    · next e => simp [show ¬ (m : Int) = (i : Int) by omega]

theorem markOneF (zs : List Int) (x : Rn) (n g : Nat) (l : List Int) (wr w : World) (hf : From wr w) (hx : WF zs n x) (hn2 : n ≤ 4096) (hats : Ats wr x.ad x.len zs) (haway : Away g x.ad) (hblk : Blk wr g 3 (ints l)) (hll : l.length = n) (hb : ∀ i, i < n → 0 ≤ l.getD i 0 ∧ l.getD i 0 ≤ 1000) :
    Calls Try.prog 17 #[.int .i64 x.lo, .int .i64 x.hi, .slice x.ad x.len x.cap, .bool x.comp, .int .i64 (n : Int), .slice (some ⟨g, 0, none⟩) n n] w fun e w' =>
      e = .returned (.tuple #[.int .i64 (heldR zs x : Int), .bool true]) ∧ Blk w' g 3 (ints (markR zs x l)) ∧ Only g w w' ∧ But g wr w' :=
  (markOne zs x n g l w hx hn2 (hats.below hf.below (Nat.le_refl _)) haway (hblk.below hf.below hblk.lt) hll hb).mono fun _ _ ⟨h1, h2, h3⟩ => ⟨h1, h2, h3, ((But.refl g wr).step hf.below).only h3⟩

/-- A listing holds as many as it lists; where it marks. -/
theorem listing_held {zs : List Int} {n len cap : Nat} {ad of : Option Addr} (h : WF zs n ⟨0, n, ad, len, cap, of, false⟩) : heldR zs ⟨0, n, ad, len, cap, of, false⟩ = len := by
  have h2 := runLen_held h
  simp only [runLen] at h2
  simp at h2
  omega
theorem listing_ind {zs : List Int} {n len cap : Nat} {ad of : Option Addr} (p : Nat) (hp : p < n) : ind zs ⟨0, n, ad, len, cap, of, false⟩ p = if inB zs len (p : Int) = true then 1 else 0 := by
  have hr : (0 : Int) ≤ (p : Int) ∧ (p : Int) < (n : Int) := by omega
  by_cases h : inB zs len (p : Int) = true
  · rw [if_pos h]
    exact if_pos ⟨hr.1, hr.2, by unfold holdsB; rw [h]; rfl⟩
  · rw [if_neg h]
    refine if_neg ?_
    rintro ⟨_, _, h'⟩
    unfold holdsB at h'
    simp at h'
    exact h h'

end Go.Proofs.Qxb6615808a
