/-
  The plain laws on runs of places: no Go here.
-/
namespace Go.Proofs.Qxb6615808a

/-- Is p among the first 'len' numbers of zs? -/
def inB (zs : List Int) (len : Nat) (p : Int) : Bool := decide (∃ i, i < len ∧ zs.getD i 0 = p)
/-- Does the run hold p (p lying within its bounds)? -/
def holdsB (zs : List Int) (len : Nat) (comp : Bool) (p : Int) : Bool := inB zs len p != comp
/-- How many of the k places from a on the run holds. -/
def heldN (zs : List Int) (len : Nat) (comp : Bool) (a : Nat) : Nat → Nat
  | 0 => 0
  | k + 1 => heldN zs len comp a k + if holdsB zs len comp ((a + k : Nat) : Int) = true then 1 else 0
/-- One is added at each of the k places from a on that the run holds. -/
def marked (zs : List Int) (len : Nat) (comp : Bool) (a k : Nat) (l : List Int) : List Int :=
  (List.range l.length).map fun i => l.getD i 0 + if a ≤ i ∧ i < a + k ∧ holdsB zs len comp (i : Int) = true then 1 else 0

/-- The first 'len' numbers of zs are strictly ascending, each from lo up to hi. -/
def Asc (zs : List Int) (len : Nat) (lo hi : Int) : Prop := ∀ i, i < len → lo ≤ zs.getD i 0 ∧ zs.getD i 0 < hi ∧ (0 < i → zs.getD (i - 1) 0 < zs.getD i 0)

theorem Asc.lt {zs : List Int} {len : Nat} {lo hi : Int} (h : Asc zs len lo hi) : ∀ d i, i + d + 1 < len → zs.getD i 0 < zs.getD (i + d + 1) 0
  | 0, i, hi' => by
    have := (h (i + 1) hi').2.2 (by omega)
    simpa using this
  | d + 1, i, hi' => by
    have h1 := Asc.lt h d i (by omega)
    have h2 := (h (i + (d + 1) + 1) hi').2.2 (by omega)
    rw [show i + (d + 1) + 1 - 1 = i + d + 1 by omega] at h2
    omega
theorem Asc.lt' {zs : List Int} {len : Nat} {lo hi : Int} (h : Asc zs len lo hi) (i j : Nat) (hij : i < j) (hj : j < len) : zs.getD i 0 < zs.getD j 0 := by
  have := h.lt (j - i - 1) i (by omega)
  rwa [show i + (j - i - 1) + 1 = j by omega] at this

theorem in_yes {zs : List Int} {len : Nat} {p : Int} (j : Nat) (hj : j < len) (h : zs.getD j 0 = p) : inB zs len p = true := decide_eq_true ⟨j, hj, h⟩
theorem in_no {zs : List Int} {len : Nat} {lo hi p : Int} (j : Nat) (ha : Asc zs len lo hi) (h1 : ∀ i, i < j → zs.getD i 0 < p) (h2 : j < len → p < zs.getD j 0) : inB zs len p = false := by
  refine decide_eq_false ?_
  rintro ⟨i, hi', rfl⟩
  by_cases e : i < j
  · have := h1 i e; omega
  · by_cases e2 : i = j
    · subst e2; have := h2 hi'; omega
    · have := ha.lt' j i (by omega) hi'
      have := h2 (by omega)
      omega

theorem marked_length (zs : List Int) (len : Nat) (comp : Bool) (a k : Nat) (l : List Int) : (marked zs len comp a k l).length = l.length := by simp [marked]
theorem marked_zero (zs : List Int) (len : Nat) (comp : Bool) (a : Nat) (l : List Int) : marked zs len comp a 0 l = l := by
  apply List.ext_getElem
  · simp [marked]
  · intro i h1 h2
    simp only [marked, List.getElem_map, List.getElem_range]
    rw [if_neg (by omega), List.getD_eq_getElem?_getD, List.getElem?_eq_getElem h2]
    simp
theorem marked_get (zs : List Int) (len : Nat) (comp : Bool) (a k : Nat) (l : List Int) (i : Nat) (h : i < l.length) :
    (marked zs len comp a k l).getD i 0 = l.getD i 0 + if a ≤ i ∧ i < a + k ∧ holdsB zs len comp (i : Int) = true then 1 else 0 := by
  simp [marked, h]
theorem marked_yes (zs : List Int) (len : Nat) (comp : Bool) (a k : Nat) (l : List Int) (h : holdsB zs len comp ((a + k : Nat) : Int) = true) :
    marked zs len comp a (k + 1) l = (marked zs len comp a k l).set (a + k) ((marked zs len comp a k l).getD (a + k) 0 + 1) := by
  apply List.ext_getElem
  · simp [marked]
  · intro i h1 h2
    rw [List.getElem_set]
    have hl : i < l.length := by simpa [marked] using h1
    split
    · next e =>
      subst e
      rw [marked_get _ _ _ _ _ _ _ hl]
      simp only [marked, List.getElem_map, List.getElem_range]
      rw [if_pos ⟨by omega, by omega, h⟩, if_neg (by omega)]
      omega
    · next e =>
      simp only [marked, List.getElem_map, List.getElem_range]
      congr 1
      by_cases c : a ≤ i ∧ i < a + k ∧ holdsB zs len comp (i : Int) = true
      · rw [if_pos c, if_pos ⟨c.1, by omega, c.2.2⟩]
      · rw [if_neg c, if_neg (by rintro ⟨x, y, z⟩; exact c ⟨x, by omega, z⟩)]
theorem marked_no (zs : List Int) (len : Nat) (comp : Bool) (a k : Nat) (l : List Int) (h : holdsB zs len comp ((a + k : Nat) : Int) = false) :
    marked zs len comp a (k + 1) l = marked zs len comp a k l := by
  unfold marked
  apply List.map_congr_left
  intro i _
  congr 1
  by_cases c : a ≤ i ∧ i < a + k ∧ holdsB zs len comp (i : Int) = true
  · rw [if_pos c, if_pos ⟨c.1, by omega, c.2.2⟩]
  · refine (if_neg ?_).trans (if_neg c).symm
    rintro ⟨x, y, z⟩
    by_cases e : i = a + k
    · subst e; rw [h] at z; cases z
    · exact c ⟨x, by omega, z⟩
theorem held_yes (zs : List Int) (len : Nat) (comp : Bool) (a k : Nat) (h : holdsB zs len comp ((a + k : Nat) : Int) = true) : heldN zs len comp a (k + 1) = heldN zs len comp a k + 1 := by
  show heldN zs len comp a k + (if _ then 1 else 0) = _
  rw [if_pos h]
theorem held_no (zs : List Int) (len : Nat) (comp : Bool) (a k : Nat) (h : holdsB zs len comp ((a + k : Nat) : Int) = false) : heldN zs len comp a (k + 1) = heldN zs len comp a k := by
  show heldN zs len comp a k + (if _ then 1 else 0) = _
  rw [if_neg (by rw [h]; simp), Nat.add_zero]
theorem held_le (zs : List Int) (len : Nat) (comp : Bool) (a : Nat) : ∀ k, heldN zs len comp a k ≤ k
  | 0 => Nat.le_refl _
  | k + 1 => by
    have := held_le zs len comp a k
    simp only [heldN]
    split <;> omega


theorem held_both (zs : List Int) (len : Nat) (a : Nat) : ∀ k, heldN zs len true a k + heldN zs len false a k = k
  | 0 => rfl
  | k + 1 => by
    have ih := held_both zs len a k
    cases h : inB zs len ((a + k : Nat) : Int)
    · rw [held_yes _ _ _ _ _ (by simp only [holdsB, h]; rfl), held_no _ _ _ _ _ (by simp only [holdsB, h]; rfl)]; omega
    · rw [held_no _ _ _ _ _ (by simp only [holdsB, h]; rfl), held_yes _ _ _ _ _ (by simp only [holdsB, h]; rfl)]; omega

/-- The run that lists zs holds as many places as zs has numbers below its end. -/
theorem held_list {zs : List Int} {len : Nat} {a : Nat} {hi : Int} (ha : Asc zs len a hi) : ∀ k, heldN zs len false a k ≤ len ∧ (∀ i, i < heldN zs len false a k → zs.getD i 0 < ((a + k : Nat) : Int)) ∧
    (heldN zs len false a k < len → ((a + k : Nat) : Int) ≤ zs.getD (heldN zs len false a k) 0)
  | 0 => ⟨Nat.zero_le _, fun i h => by simp [heldN] at h, fun h => by have := (ha 0 h).1; simpa [heldN] using this⟩
  | k + 1 => by
    obtain ⟨h1, h2, h3⟩ := held_list ha k
    by_cases c : heldN zs len false a k < len ∧ zs.getD (heldN zs len false a k) 0 = ((a + k : Nat) : Int)
    · rw [held_yes _ _ _ _ _ (by simp only [holdsB, in_yes _ c.1 c.2]; rfl)]
      refine ⟨by omega, fun i hi' => ?_, fun hlt => ?_⟩
      · by_cases e : i = heldN zs len false a k
        · rw [e, c.2]; omega
        · have := h2 i (by omega); omega
      · have := ha.lt' (heldN zs len false a k) (heldN zs len false a k + 1) (by omega) hlt
        rw [c.2] at this
        omega
    · have hb : heldN zs len false a k < len → ((a + k : Nat) : Int) < zs.getD (heldN zs len false a k) 0 := fun h => by
        have := h3 h
        have : zs.getD (heldN zs len false a k) 0 ≠ ((a + k : Nat) : Int) := fun e => c ⟨h, e⟩
        omega
      rw [held_no _ _ _ _ _ (by simp only [holdsB, in_no _ ha h2 hb]; rfl)]
      refine ⟨h1, fun i hi' => ?_, fun hlt => ?_⟩
      · have := h2 i hi'; omega
      · have := hb hlt; omega

theorem held_len {zs : List Int} {len : Nat} {a k : Nat} (ha : Asc zs len a ((a + k : Nat) : Int)) : heldN zs len false a k = len := by
  obtain ⟨h1, h2, h3⟩ := held_list ha k
  by_cases h : heldN zs len false a k < len
  · have := h3 h
    have := (ha _ h).2.1
    omega
  · omega
theorem held_comp {zs : List Int} {len : Nat} {a k : Nat} (ha : Asc zs len a ((a + k : Nat) : Int)) : heldN zs len true a k = k - len ∧ len ≤ k := by
  have := held_both zs len a k
  have := held_len ha
  omega

end Go.Proofs.Qxb6615808a
