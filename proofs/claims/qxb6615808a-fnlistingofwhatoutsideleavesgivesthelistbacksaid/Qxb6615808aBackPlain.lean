/-
  Plain laws for the round trip: what the runs outside a listing hold, in order; and what is outside of that.
-/
import Derived.Test.Qxb6615808aApp
namespace Go.Proofs.Qxb6615808a
open Go.RowKit

def heldLR (zs : List Int) (x : Rn) : List Int := heldL zs x.len x.comp x.lo.toNat (x.hi.toNat - x.lo.toNat)
def appAll (zs : List Int) : List Rn → List Int → List Int
  | [], l => l
  | x :: xs, l => appAll zs xs (l ++ heldLR zs x)

theorem appAll_snoc (zs : List Int) : ∀ (xs : List Rn) (k : Nat) (x : Rn) (l : List Int), xs[k]? = some x → appAll zs (xs.take (k + 1)) l = appAll zs (xs.take k) l ++ heldLR zs x
  | [], k, x, l, h => by simp at h
  | y :: ys, 0, x, l, h => by
    simp at h
    subst h
    simp [appAll]
  | y :: ys, k + 1, x, l, h => by
    rw [List.take_succ_cons, List.take_succ_cons, appAll, appAll, appAll_snoc zs ys k x _ (by simpa using h)]
theorem appAll_append (zs : List Int) : ∀ (xs : List Rn) (l : List Int), appAll zs xs l = l ++ appAll zs xs []
  | [], l => by simp [appAll]
  | x :: xs, l => by rw [appAll, appAll, appAll_append zs xs (l ++ heldLR zs x), appAll_append zs xs ([] ++ heldLR zs x), List.nil_append, List.append_assoc]
theorem heldLR_void {zs : List Int} {n : Nat} {x : Rn} (h : WF zs n x) (hv : x.void = true) : heldLR zs x = [] := by
  have e : heldR zs x = 0 := by
    have := runLen_held h
    simp only [Rn.void, beq_iff_eq] at hv
    omega
  apply List.eq_nil_of_length_eq_zero
  rw [heldLR, heldL_length]
  exact e
theorem app_kept {zs : List Int} {n : Nat} : ∀ (xs : List Rn) (l : List Int), (∀ x ∈ xs, WF zs n x) → appAll zs (kept xs) l = appAll zs xs l
  | [], _, _ => rfl
  | x :: xs, l, h => by
    have ih := fun l => app_kept xs l fun y hy => h y (List.mem_cons_of_mem _ hy)
    unfold kept at ih ⊢
    cases hv : x.void
    · simp only [List.filter_cons, hv]
      simp only [Bool.not_false, if_true, appAll, ih]
    · have := heldLR_void (h x List.mem_cons_self) hv
      simp only [List.filter_cons, hv, Bool.not_true, appAll, this, List.append_nil]
      simp [ih]
theorem heldLR_le {zs : List Int} {n : Nat} {x : Rn} (h : WF zs n x) : (heldLR zs x).length ≤ n := by
  obtain ⟨h0, h1, h2, _⟩ := h
  have := held_le zs x.len x.comp x.lo.toNat (x.hi.toNat - x.lo.toNat)
  rw [heldLR, heldL_length]
  omega
theorem appAll_le {zs : List Int} {n : Nat} : ∀ (xs : List Rn) (l : List Int), (∀ x ∈ xs, WF zs n x) → (appAll zs xs l).length ≤ l.length + xs.length * n
  | [], l, _ => by simp [appAll]
  | x :: xs, l, h => by
    have h1 := appAll_le xs (l ++ heldLR zs x) fun y hy => h y (List.mem_cons_of_mem _ hy)
    have h2 := heldLR_le (h x List.mem_cons_self)
    rw [List.length_append] at h1
    rw [appAll, List.length_cons, Nat.succ_mul]
    omega

/-- What lies outside a run of all n places. -/
theorem outs_app {zs : List Int} {n : Nat} {r : Rn} (h0 : r.lo = 0) (h1 : r.hi = (n : Int)) : appAll zs (outs r n) [] = heldL zs r.len (!r.comp) 0 n := by
  simp [outs, appAll, heldLR, h0, h1, heldL]
theorem outs_kept_app {zs : List Int} {n : Nat} {r : Rn} (hw : WF zs n r) (h0 : r.lo = 0) (h1 : r.hi = (n : Int)) : appAll zs (kept (outs r n)) [] = heldL zs r.len (!r.comp) 0 n := by
  rw [app_kept (n := n) _ _ (outs_wf hw), outs_app h0 h1]

theorem mem_heldL (zs : List Int) (len : Nat) (comp : Bool) (a : Nat) : ∀ k x, x ∈ heldL zs len comp a k ↔ (a : Int) ≤ x ∧ x < ((a + k : Nat) : Int) ∧ holdsB zs len comp x = true
  | 0, x => by simp [heldL]; omega
  | k + 1, x => by
    rw [heldL, List.mem_append, mem_heldL zs len comp a k x]
    by_cases e : x = ((a + k : Nat) : Int)
    · subst e
      cases hb : holdsB zs len comp ((a + k : Nat) : Int)
      · simp
      · simp
        omega
    · constructor
      · rintro (⟨h1, h2, h3⟩ | h)
        · exact ⟨h1, by omega, h3⟩
        · split at h
          · simp at h; omega
          · simp at h
      · rintro ⟨h1, h2, h3⟩
        exact .inl ⟨h1, by omega, h3⟩
theorem inB_mem (l : List Int) (p : Int) : inB l l.length p = true ↔ p ∈ l := by
  unfold inB
  rw [decide_eq_true_iff]
  constructor
  · rintro ⟨i, hi, rfl⟩
    rw [List.getD_eq_getElem?_getD, List.getElem?_eq_getElem hi]
    simp
  · intro h
    obtain ⟨i, hi, rfl⟩ := List.getElem_of_mem h
    exact ⟨i, hi, by rw [List.getD_eq_getElem?_getD, List.getElem?_eq_getElem hi]; rfl⟩

theorem heldL_asc (zs : List Int) (len : Nat) (comp : Bool) (a : Nat) : ∀ k, Asc (heldL zs len comp a k) (heldL zs len comp a k).length a ((a + k : Nat) : Int)
  | 0 => fun i hi => by simp [heldL] at hi
  | k + 1 => by
    have ih := heldL_asc zs len comp a k
    intro i hi
    rw [heldL] at hi ⊢
    by_cases hb : holdsB zs len comp ((a + k : Nat) : Int) = true
    · rw [if_pos hb] at hi ⊢
      rw [List.length_append] at hi
      simp at hi
      have hall : ∀ j, j < (heldL zs len comp a k).length → (heldL zs len comp a k ++ [((a + k : Nat) : Int)]).getD j 0 = (heldL zs len comp a k).getD j 0 := fun j hj => by
        rw [List.getD_eq_getElem?_getD, List.getD_eq_getElem?_getD, List.getElem?_append_left hj]
      by_cases e : i < (heldL zs len comp a k).length
      · rw [hall i e]
        obtain ⟨h1, h2, h3⟩ := ih i e
        refine ⟨h1, by omega, fun hp => ?_⟩
        rw [hall (i - 1) (by omega)]
        exact h3 hp
      · obtain rfl : i = (heldL zs len comp a k).length := by omega
        have hl : (heldL zs len comp a k ++ [((a + k : Nat) : Int)]).getD (heldL zs len comp a k).length 0 = ((a + k : Nat) : Int) := by
          rw [List.getD_eq_getElem?_getD, List.getElem?_append_right (Nat.le_refl _), Nat.sub_self]
          rfl
        rw [hl]
        refine ⟨by omega, by omega, fun hp => ?_⟩
        rw [hall _ (by omega)]
        have := (ih ((heldL zs len comp a k).length - 1) (by omega)).2.1
        omega
    · rw [if_neg hb, List.append_nil] at hi ⊢
      obtain ⟨h1, h2, h3⟩ := ih i hi
      exact ⟨h1, by omega, h3⟩

theorem heldL_congr {z1 z2 : List Int} {l1 l2 : Nat} {c1 c2 : Bool} {a : Nat} : ∀ k, (∀ q, q < k → holdsB z1 l1 c1 ((a + q : Nat) : Int) = holdsB z2 l2 c2 ((a + q : Nat) : Int)) → heldL z1 l1 c1 a k = heldL z2 l2 c2 a k
  | 0, _ => rfl
  | k + 1, h => by
    rw [heldL, heldL, heldL_congr k (fun q hq => h q (by omega)), h k (by omega)]

/-- The places outside those outside the list are the list's. -/
theorem back (zs : List Int) (len n : Nat) : heldL (heldL zs len true 0 n) (heldL zs len true 0 n).length true 0 n = heldL zs len false 0 n := by
  refine heldL_congr n fun q hq => ?_
  have hm := inB_mem (heldL zs len true 0 n) ((0 + q : Nat) : Int)
  rw [mem_heldL] at hm
  have hr : (((0 : Nat) : Int) ≤ ((0 + q : Nat) : Int) ∧ ((0 + q : Nat) : Int) < ((0 + n : Nat) : Int)) := ⟨by omega, by omega⟩
  unfold holdsB at hm ⊢
  generalize ((0 + q : Nat) : Int) = P at hm hr ⊢
  generalize inB (heldL zs len true 0 n) (heldL zs len true 0 n).length P = A at hm ⊢
  generalize inB zs len P = B at hm ⊢
  cases A <;> cases B <;> simp_all

theorem heldL_get {zs : List Int} {len : Nat} {a : Nat} {hi : Int} (ha : Asc zs len a hi) : ∀ k i, i < heldN zs len false a k → (heldL zs len false a k).getD i 0 = zs.getD i 0
  | 0, i, h => by simp [heldN] at h
  | k + 1, i, h => by
    obtain ⟨h1, h2, h3⟩ := held_list ha k
    have hl := heldL_length zs len false a k
    have ih := heldL_get ha k
    by_cases c : heldN zs len false a k < len ∧ zs.getD (heldN zs len false a k) 0 = ((a + k : Nat) : Int)
    · have hy : holdsB zs len false ((a + k : Nat) : Int) = true := by simp only [holdsB, in_yes _ c.1 c.2]; rfl
      rw [held_yes _ _ _ _ _ hy] at h
      rw [heldL, if_pos hy]
      by_cases e : i < heldN zs len false a k
      · rw [List.getD_eq_getElem?_getD, List.getElem?_append_left (by omega), ← List.getD_eq_getElem?_getD]
        exact ih i e
      · obtain rfl : i = heldN zs len false a k := by omega
        rw [List.getD_eq_getElem?_getD, List.getElem?_append_right (by omega), hl, Nat.sub_self, c.2]
        rfl
    · have hb : heldN zs len false a k < len → ((a + k : Nat) : Int) < zs.getD (heldN zs len false a k) 0 := fun h => by
        have := h3 h
        have : zs.getD (heldN zs len false a k) 0 ≠ ((a + k : Nat) : Int) := fun e => c ⟨h, e⟩
        omega
      have hn : holdsB zs len false ((a + k : Nat) : Int) = false := by simp only [holdsB, in_no _ ha h2 hb]; rfl
      rw [held_no _ _ _ _ _ hn] at h
      rw [heldL, if_neg (by rw [hn]; simp), List.append_nil]
      exact ih i h


/-- All that a caller of 'zzAppendHeld' over outside's runs must know of them: g0 is the first block of what is appended to. -/
structure Good2 (zs : List Int) (n : Nat) (w : World) (g0 : Nat) (xs : List Rn) : Prop where
  short : xs.length ≤ 3
  chain : Chain 0 xs
  each : ∀ x ∈ xs, WF zs n x ∧ Ats w x.ad x.len zs ∧ ∀ k, k = g0 ∨ w.heap.size ≤ k → Away k x.ad

theorem outs_good2 {zs : List Int} {n : Nat} {r : Rn} {w : World} {g0 : Nat} (h : WF zs n r) (ha : Ats w r.ad r.len zs) (hw : ∀ k, k = g0 ∨ w.heap.size ≤ k → Away k r.ad) : Good2 zs n w g0 (kept (outs r n)) := by
  refine ⟨?_, chain_kept _ _ (outs_wf h) (outs_chain h), fun x hx => ?_⟩
  · have := List.length_filter_le (fun r => !Rn.void r) (outs r n)
    simpa [kept, outs] using this
  · obtain ⟨hm, _⟩ := kept_mem hx
    refine ⟨outs_wf h x hm, ?_⟩
    simp [outs] at hm
    rcases hm with rfl | rfl | rfl
    · exact ⟨fun h => by simp at h, fun k _ x hx => by simp at hx⟩
    · exact ⟨ha, hw⟩
    · exact ⟨fun h => by simp at h, fun k _ x hx => by simp at hx⟩

def appRn (zs : List Int) (x : Rn) (l : List Int) : List Int := l ++ heldLR zs x
def appK (zs : List Int) (xs : List Rn) (k : Nat) : List Int := appAll zs (xs.take k) []
theorem appK_snoc (zs : List Int) (xs : List Rn) (k : Nat) (x : Rn) (h : xs[k]? = some x) : appK zs xs (k + 1) = appRn zs x (appK zs xs k) := appAll_snoc zs xs k x [] h
theorem appK_le {zs : List Int} {n : Nat} {w : World} {g0 : Nat} {xs : List Rn} (h : Good2 zs n w g0 xs) (hn : n ≤ 4096) (k : Nat) : (appK zs xs k).length ≤ 16384 := by
  have h1 := appAll_le (zs := zs) (n := n) (xs.take k) [] fun x hx => (h.each x (List.mem_of_mem_take hx)).1
  have h2 : (xs.take k).length ≤ 3 := by have := h.short; rw [List.length_take]; omega
  have h3 : (xs.take k).length * n ≤ 3 * 4096 := Nat.mul_le_mul h2 hn
  unfold appK
  simp only [List.length_nil] at h1
  omega
theorem appRn_lt {zs : List Int} {n : Nat} {x : Rn} (hw : WF zs n x) {l : List Int} {pr : Int} (hl : ∀ y ∈ l, y < pr) (hp : pr ≤ x.lo) : ∀ y ∈ appRn zs x l, y < x.hi := by
  obtain ⟨h0, h1, _⟩ := hw
  intro y hy
  rcases List.mem_append.1 hy with h | h
  · have := hl y h; omega
  · have := heldL_mem _ _ _ _ _ _ h
    omega

theorem But.trans' {g g' : Nat} {a b c : World} (h : But g a b) (k : But g' b c) (he : g' = g ∨ a.heap.size ≤ g') : But g a c :=
  ⟨k.os.trans h.os, k.tape.trans h.tape, k.output.trans h.output, Nat.le_trans h.size k.size, fun i hi hne => (k.block i (Nat.lt_of_lt_of_le hi h.size) (by omega)).trans (h.block i hi hne)⟩
theorem keep5b {w2 w3 : World} {b g : Nat} {v0 v1 v2 v3 v4 : Value} (hne : b ≠ g) (hb : But g w2 w3)
    (h : w2.cell? ⟨b, 0, none⟩ = some v0 ∧ w2.cell? ⟨b, 1, none⟩ = some v1 ∧ w2.cell? ⟨b, 2, none⟩ = some v2 ∧ w2.cell? ⟨b, 3, none⟩ = some v3 ∧ w2.cell? ⟨b, 4, none⟩ = some v4) :
    w3.cell? ⟨b, 0, none⟩ = some v0 ∧ w3.cell? ⟨b, 1, none⟩ = some v1 ∧ w3.cell? ⟨b, 2, none⟩ = some v2 ∧ w3.cell? ⟨b, 3, none⟩ = some v3 ∧ w3.cell? ⟨b, 4, none⟩ = some v4 := by
  obtain ⟨h1, h2, h3, h4, h5⟩ := h
  have h0 := World.block_lt_of_cell? _ _ h1
  have e := hb.block b h0 hne
  exact ⟨(World.cell?_of_block (w := w2) (a := ⟨b, 0, none⟩) e).trans h1, (World.cell?_of_block (w := w2) (a := ⟨b, 1, none⟩) e).trans h2, (World.cell?_of_block (w := w2) (a := ⟨b, 2, none⟩) e).trans h3, (World.cell?_of_block (w := w2) (a := ⟨b, 3, none⟩) e).trans h4, (World.cell?_of_block (w := w2) (a := ⟨b, 4, none⟩) e).trans h5⟩

theorem appRunF (zs : List Int) (x : Rn) (n g c : Nat) (l : List Int) (wr w : World) (hf : From wr w) (hx : WF zs n x) (hn2 : n ≤ 4096) (hats : Ats wr x.ad x.len zs) (haway : Away g x.ad) (hd : Dst wr g c l) (hll : l.length ≤ 16384) (hb : ∀ y ∈ l, y < x.lo) :
    Calls Try.prog 26 #[.int .i64 x.lo, .int .i64 x.hi, .slice x.ad x.len x.cap, .bool x.comp, .int .i64 (n : Int), .slice (some ⟨g, 0, none⟩) l.length c] w fun e w' =>
      ∃ g' c', e = .returned (.tuple #[.slice (some ⟨g', 0, none⟩) (appRn zs x l).length c', .bool true]) ∧ Dst w' g' c' (appRn zs x l) ∧ But g wr w' ∧ (g' = g ∨ wr.heap.size ≤ g') ∧ But g w w' := by
  have hlo : (x.lo.toNat : Int) = x.lo := by have := hx.1; omega
  have h := app_any x.lo.toNat x.hi x.ad x.len x.cap zs x.comp n g c l w (by rw [hlo]; exact hx.2.1) hx.2.2.1 hn2 hx.2.2.2.1 (by rw [hlo]; exact hx.2.2.2.2) (hats.below hf.below (Nat.le_refl _)) haway (hd.below hf.below) hll (by rw [hlo]; exact hb)
  rw [hlo] at h
  refine h.mono ?_
  rintro e w' ⟨g', c', h1, h2, h3, h4⟩
  refine ⟨g', c', h1, h2, ((But.refl g wr).step hf.below).trans' h3 (.inl rfl), ?_, h3⟩
  have := hf.below.size
  omega

theorem dst_new (w : World) : Dst (w.alloc (.cells #[] 3)) w.heap.size 0 [] :=
  ⟨rfl, .inr ⟨w.heap.size, 0, #[], rfl, Nat.zero_le _, by show (w.heap.push _)[w.heap.size]? = _; simp, Nat.le_refl _, Nat.zero_le _, rfl, rfl⟩⟩

theorem Dst.ats {w : World} {g c : Nat} {l : List Int} (h : Dst w g c l) : Ats w (some ⟨g, 0, none⟩) l.length l := fun _ => ⟨g, 0, rfl, fun i hi => by rw [Nat.zero_add]; exact h.cell i hi⟩

theorem keep10 {w2 w3 : World} {b c : Nat} {v0 v1 v2 v3 v4 u0 u1 u2 u3 u4 : Value} (hb : Below w2.heap.size w2 w3)
    (h : (w2.cell? ⟨b, 0, none⟩ = some v0 ∧ w2.cell? ⟨b, 1, none⟩ = some v1 ∧ w2.cell? ⟨b, 2, none⟩ = some v2 ∧ w2.cell? ⟨b, 3, none⟩ = some v3 ∧ w2.cell? ⟨b, 4, none⟩ = some v4) ∧ (w2.cell? ⟨c, 0, none⟩ = some u0 ∧ w2.cell? ⟨c, 1, none⟩ = some u1 ∧ w2.cell? ⟨c, 2, none⟩ = some u2 ∧ w2.cell? ⟨c, 3, none⟩ = some u3 ∧ w2.cell? ⟨c, 4, none⟩ = some u4)) :
    (w3.cell? ⟨b, 0, none⟩ = some v0 ∧ w3.cell? ⟨b, 1, none⟩ = some v1 ∧ w3.cell? ⟨b, 2, none⟩ = some v2 ∧ w3.cell? ⟨b, 3, none⟩ = some v3 ∧ w3.cell? ⟨b, 4, none⟩ = some v4) ∧ (w3.cell? ⟨c, 0, none⟩ = some u0 ∧ w3.cell? ⟨c, 1, none⟩ = some u1 ∧ w3.cell? ⟨c, 2, none⟩ = some u2 ∧ w3.cell? ⟨c, 3, none⟩ = some u3 ∧ w3.cell? ⟨c, 4, none⟩ = some u4) := ⟨keep5 hb h.1, keep5 hb h.2⟩

end Go.Proofs.Qxb6615808a
