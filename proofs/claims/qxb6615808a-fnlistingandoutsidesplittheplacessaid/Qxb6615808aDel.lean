/-
  The walks of 'slices.IndexFunc' (38) and 'slices.DeleteFunc' (36) at a slice of runs, with the closure of outside (37): those of len 0 are struck.
-/
import Derived.Test.Qxb6615808aStruct
import Derived.Deep.RegionHeld3
namespace Go.Proofs.Qxb6615808a
open Go.RowKit

/-- A run, as it lies in five cells. -/
structure Rn where
  lo : Int
  hi : Int
  ad : Option Addr
  len : Nat
  cap : Nat
  of : Option Addr
  comp : Bool

def Rn.vals (r : Rn) : List Value := [.int .i64 r.lo, .int .i64 r.hi, .slice r.ad r.len r.cap, .pointer r.of, .bool r.comp]
/-- Its numbers are small. -/
def Rn.ok (r : Rn) : Prop := 0 ≤ r.lo ∧ r.lo ≤ 4096 ∧ 0 ≤ r.hi ∧ r.hi ≤ 4096 ∧ r.len ≤ 4096
/-- It holds no one. -/
def Rn.void (r : Rn) : Bool := runLen r.lo r.hi r.len r.comp == 0
def flat (rs : List Rn) : List Value := rs.flatMap Rn.vals

theorem flat_cons (r : Rn) (rs : List Rn) : flat (r :: rs) = r.vals ++ flat rs := by simp [flat]
theorem flat_length (rs : List Rn) : (flat rs).length = rs.length * 5 := by
  induction rs with
  | nil => rfl
  | cons r rs ih => rw [flat_cons, List.length_append, ih]; simp [Rn.vals]; omega
theorem flat_get : ∀ (rs : List Rn) (k j : Nat) (r : Rn), rs[k]? = some r → j < 5 → (flat rs)[k * 5 + j]? = r.vals[j]?
  | [], k, j, r, h, _ => by simp at h
  | x :: rs, 0, j, r, h, hj => by
    simp at h
    subst h
    rw [flat_cons, List.getElem?_append_left (by simp [Rn.vals]; omega)]
    simp
  | x :: rs, k + 1, j, r, h, hj => by
    rw [flat_cons, List.getElem?_append_right (by simp [Rn.vals]; omega)]
    rw [show (k + 1) * 5 + j - x.vals.length = k * 5 + j by simp [Rn.vals]; omega]
    exact flat_get rs k j r (by simpa using h) hj

theorem flat_cells {w : World} {g : Nat} {rs : List Rn} (h : Blk w g 37 (flat rs)) {k : Nat} {r : Rn} (hr : rs[k]? = some r) :
    w.cell? ⟨g, k * 5, none⟩ = some (.int .i64 r.lo) ∧ w.cell? ⟨g, k * 5 + 1, none⟩ = some (.int .i64 r.hi) ∧ w.cell? ⟨g, k * 5 + 2, none⟩ = some (.slice r.ad r.len r.cap) ∧ w.cell? ⟨g, k * 5 + 3, none⟩ = some (.pointer r.of) ∧ w.cell? ⟨g, k * 5 + 4, none⟩ = some (.bool r.comp) := by
  refine ⟨?_, ?_, ?_, ?_, ?_⟩
  · rw [h.cell, ← Nat.add_zero (k * 5), flat_get rs k 0 r hr (by omega)]; rfl
  · rw [h.cell, flat_get rs k 1 r hr (by omega)]; rfl
  · rw [h.cell, flat_get rs k 2 r hr (by omega)]; rfl
  · rw [h.cell, flat_get rs k 3 r hr (by omega)]; rfl
  · rw [h.cell, flat_get rs k 4 r hr (by omega)]; rfl

theorem delR_any (r : Rn) (h : r.ok) (w : World) : Calls Try.prog 37 #[.agg #[.int .i64 r.lo, .int .i64 r.hi, .slice r.ad r.len r.cap, .pointer r.of, .bool r.comp]] w fun e w' => e = .returned (.bool r.void) ∧ Below w.heap.size w w' :=
  del_any r.lo r.hi r.ad r.len r.cap r.of r.comp w h.1 h.2.1 h.2.2.1 h.2.2.2.1 h.2.2.2.2

/-- The place of the first void run, or the list's length. -/
def firstVoid : List Rn → Nat
  | [] => 0
  | r :: rs => if r.void = true then 0 else firstVoid rs + 1
/-- What 'slices.IndexFunc' answers. -/
def idxOf (rs : List Rn) : Int := if firstVoid rs < rs.length then (firstVoid rs : Int) else -1

theorem firstVoid_at : ∀ (rs : List Rn) (k : Nat) (r : Rn), rs[k]? = some r → r.void = true → (∀ j, j < k → ∃ r, rs[j]? = some r ∧ r.void = false) → firstVoid rs = k
  | [], k, r, h, _, _ => by simp at h
  | x :: rs, 0, r, h, hv, _ => by
    simp at h
    subst h
    simp [firstVoid, hv]
  | x :: rs, k + 1, r, h, hv, hb => by
    obtain ⟨y, hy, hyv⟩ := hb 0 (by omega)
    simp at hy
    subst hy
    rw [firstVoid, if_neg (by rw [hyv]; simp), firstVoid_at rs k r (by simpa using h) hv fun j hj => by
      obtain ⟨z, hz, hzv⟩ := hb (j + 1) (by omega)
      exact ⟨z, by simpa using hz, hzv⟩]
theorem firstVoid_none : ∀ (rs : List Rn), (∀ j, j < rs.length → ∃ r, rs[j]? = some r ∧ r.void = false) → firstVoid rs = rs.length
  | [], _ => rfl
  | x :: rs, hb => by
    obtain ⟨y, hy, hyv⟩ := hb 0 (by simp)
    simp at hy
    subst hy
    rw [firstVoid, if_neg (by rw [hyv]; simp), firstVoid_none rs fun j hj => by
      obtain ⟨z, hz, hzv⟩ := hb (j + 1) (by simp; omega)
      exact ⟨z, by simpa using hz, hzv⟩]
    rfl
theorem idx_at {rs : List Rn} {k : Nat} {r : Rn} (hr : rs[k]? = some r) (hv : r.void = true) (hb : ∀ j, j < k → ∃ r, rs[j]? = some r ∧ r.void = false) : idxOf rs = k := by
  have hl := (List.getElem?_eq_some_iff.1 hr).1
  have e := firstVoid_at rs k r hr hv hb
  unfold idxOf
  rw [e, if_pos hl]
theorem idx_none {rs : List Rn} (hb : ∀ j, j < rs.length → ∃ r, rs[j]? = some r ∧ r.void = false) : idxOf rs = -1 := by
  unfold idxOf
  rw [firstVoid_none rs hb, if_neg (by omega)]
theorem ret_int {a b : Int} (h : a = b) : Ending.returned (.int .i64 a) = .returned (.int .i64 b) := by rw [h]

set_option maxHeartbeats 400000 in
theorem index_any (g cap : Nat) (rs : List Rn) (w : World) (hblk : Blk w g 37 (flat rs)) (hok : ∀ r ∈ rs, r.ok) (hN : rs.length ≤ 4096) :
    Calls Try.prog 38 #[.slice (some ⟨g, 0, none⟩) rs.length cap, .func (.func 37) #[] #[]] w fun e w' => e = .returned (.int .i64 (idxOf rs)) ∧ Below w.heap.size w w' := by
  have HB := hide hblk
  have HOK := hide hok
  clear hblk hok
  go_enter Try.func38, Try.ntmps38
  go_wp2
  go_loopw [8] (fun i wr => ∃ k : Nat, k ≤ rs.length ∧ i = .int .i64 k ∧ (∀ j, j < k → ∃ r, rs[j]? = some r ∧ r.void = false) ∧ Below w.heap.size w wr) (fun i _ => rs.length - (intOf i).toNat)
  case atStart => exact ⟨0, Nat.zero_le _, rfl, fun j h => by omega, Below.refl _ _⟩
  case round =>
    obtain ⟨k, hk, rfl, hbef, hbel⟩ := hrel
    have HBF := hide hbef
    have HBL := hide hbel
    by_cases hlt : k < rs.length
    · obtain ⟨r, hr⟩ : ∃ r, rs[k]? = some r := ⟨rs[k], List.getElem?_eq_getElem hlt⟩
      obtain ⟨c0, c1, c2, c3, c4⟩ := flat_cells (HB.out.below hbel HB.out.lt) hr
      have HR := hide hr
      clear hbef hbel hr
      go_wp2_with fail
      refine (delR_any r (HOK.out r (List.mem_of_getElem? HR.out)) _).mono ?_
      rintro e w1 ⟨rfl, hb1⟩
      have HB1 := hide hb1
      clear hb1 c0 c1 c2 c3 c4
      cases hv : r.void
      · go_wp2
        go_roundw
        case rel => exact ⟨k + 1, by omega, by go_num, fun j hj => by
                      by_cases e : j = k
                      · exact ⟨r, by rw [e]; exact HR.out, hv⟩
                      · exact HBF.out j (by omega), HBL.out.trans (HB1.out.mono HBL.out.size)⟩
        case measure => simp [intOf]; omega
      · go_wp2
        go_ret
        exact ⟨ret_int (idx_at HR.out hv HBF.out).symm, HBL.out.trans (HB1.out.mono HBL.out.size)⟩
    · clear hbef hbel
      go_wp2
      go_ret
      exact ⟨ret_int (idx_none fun j hj => HBF.out j (by omega)).symm, HBL.out⟩

end Go.Proofs.Qxb6615808a
