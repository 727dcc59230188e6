/-
  Plain laws on runs: what they hold, marked over a list of them; what outside leaves.
-/
import Derived.Test.Qxb6615808aOut
namespace Go.Proofs.Qxb6615808a
open Go.RowKit

/-- The run is well formed within n places, what it lists being the first of zs. -/
def WF (zs : List Int) (n : Nat) (x : Rn) : Prop := 0 ≤ x.lo ∧ x.lo ≤ x.hi ∧ x.hi ≤ (n : Int) ∧ x.len ≤ 4096 ∧ Asc zs x.len x.lo x.hi
def heldR (zs : List Int) (x : Rn) : Nat := heldN zs x.len x.comp x.lo.toNat (x.hi.toNat - x.lo.toNat)
def markR (zs : List Int) (x : Rn) (l : List Int) : List Int := marked zs x.len x.comp x.lo.toNat (x.hi.toNat - x.lo.toNat) l
/-- One where the run holds p, else nought. -/
def ind (zs : List Int) (x : Rn) (p : Nat) : Int := if x.lo ≤ (p : Int) ∧ (p : Int) < x.hi ∧ holdsB zs x.len x.comp (p : Int) = true then 1 else 0
def sumInd (zs : List Int) (p : Nat) : List Rn → Int
  | [] => 0
  | x :: xs => ind zs x p + sumInd zs p xs
def markAll (zs : List Int) : List Rn → List Int → List Int
  | [], l => l
  | x :: xs, l => markAll zs xs (markR zs x l)
/-- The runs ascend, the first from p on. -/
def Chain : Int → List Rn → Prop
  | _, [] => True
  | p, x :: xs => p ≤ x.lo ∧ Chain x.hi xs

theorem ind_01 (zs : List Int) (x : Rn) (p : Nat) : 0 ≤ ind zs x p ∧ ind zs x p ≤ 1 := by unfold ind; split <;> omega
theorem markR_length (zs : List Int) (x : Rn) (l : List Int) : (markR zs x l).length = l.length := marked_length _ _ _ _ _ _
theorem markAll_length (zs : List Int) : ∀ (xs : List Rn) (l : List Int), (markAll zs xs l).length = l.length
  | [], _ => rfl
  | x :: xs, l => by rw [markAll, markAll_length zs xs, markR_length]
theorem markR_get {zs : List Int} {n : Nat} {x : Rn} (h : WF zs n x) (l : List Int) (p : Nat) (hp : p < l.length) : (markR zs x l).getD p 0 = l.getD p 0 + ind zs x p := by
  obtain ⟨h0, h1, _⟩ := h
  unfold markR ind
  rw [marked_get _ _ _ _ _ _ _ hp]
  congr 1
  by_cases c : x.lo ≤ (p : Int) ∧ (p : Int) < x.hi ∧ holdsB zs x.len x.comp (p : Int) = true
  · rw [if_pos c, if_pos ⟨by omega, by omega, c.2.2⟩]
  · rw [if_neg c, if_neg (by rintro ⟨a, b, d⟩; exact c ⟨by omega, by omega, d⟩)]
theorem markAll_get {zs : List Int} {n : Nat} : ∀ (xs : List Rn) (l : List Int) (p : Nat), (∀ x ∈ xs, WF zs n x) → p < l.length → (markAll zs xs l).getD p 0 = l.getD p 0 + sumInd zs p xs
  | [], l, p, _, _ => by simp [markAll, sumInd]
  | x :: xs, l, p, h, hp => by
    rw [markAll, markAll_get xs _ p (fun y hy => h y (List.mem_cons_of_mem _ hy)) (by rw [markR_length]; exact hp), markR_get (h x List.mem_cons_self) l p hp, sumInd]
    omega
theorem markAll_snoc (zs : List Int) : ∀ (xs : List Rn) (k : Nat) (x : Rn) (l : List Int), xs[k]? = some x → markAll zs (xs.take (k + 1)) l = markR zs x (markAll zs (xs.take k) l)
  | [], k, x, l, h => by simp at h
  | y :: ys, 0, x, l, h => by
    simp at h
    subst h
    simp [markAll]
  | y :: ys, k + 1, x, l, h => by
    rw [List.take_succ_cons, List.take_succ_cons, markAll, markAll, markAll_snoc zs ys k x _ (by simpa using h)]
/-- The counts are at most as many as the runs. -/
theorem markAll_bound {zs : List Int} {n : Nat} (xs : List Rn) (m p : Nat) (h : ∀ x ∈ xs, WF zs n x) (hl : xs.length ≤ 3) (hp : p < m) : 0 ≤ (markAll zs xs (List.replicate m 0)).getD p 0 ∧ (markAll zs xs (List.replicate m 0)).getD p 0 ≤ 1000 := by
  rw [markAll_get xs _ p h (by simpa using hp)]
  have e : (List.replicate m (0 : Int)).getD p 0 = 0 := by simp [hp]
  rw [e]
  have key : ∀ ys : List Rn, 0 ≤ sumInd zs p ys ∧ sumInd zs p ys ≤ ys.length := by
    intro ys
    induction ys with
    | nil => simp [sumInd]
    | cons y ys ih =>
      have := ind_01 zs y p
      simp only [sumInd, List.length_cons]
      omega
  have := key xs
  omega

/-- len says how many the run holds. -/
theorem runLen_held {zs : List Int} {n : Nat} {x : Rn} (h : WF zs n x) : runLen x.lo x.hi x.len x.comp = (heldR zs x : Int) := by
  obtain ⟨h0, h1, h2, h3, h4⟩ := h
  have ha : Asc zs x.len (x.lo.toNat : Int) ((x.lo.toNat + (x.hi.toNat - x.lo.toNat) : Nat) : Int) := by
    rw [show (x.lo.toNat : Int) = x.lo by omega, show ((x.lo.toNat + (x.hi.toNat - x.lo.toNat) : Nat) : Int) = x.hi by omega]
    exact h4
  unfold runLen heldR
  cases x.comp
  · rw [held_len ha]; simp
  · have := held_comp ha
    rw [if_pos rfl, this.1]
    omega
theorem held_none {zs : List Int} {len : Nat} {comp : Bool} {a : Nat} : ∀ k, heldN zs len comp a k = 0 → ∀ q, q < k → holdsB zs len comp ((a + q : Nat) : Int) = false
  | 0, _, q, hq => by omega
  | k + 1, h, q, hq => by
    cases hb : holdsB zs len comp ((a + k : Nat) : Int)
    · rw [held_no _ _ _ _ _ hb] at h
      by_cases e : q = k
      · rw [e]; exact hb
      · exact held_none k h q (by omega)
    · rw [held_yes _ _ _ _ _ hb] at h
      omega
/-- A run that holds no one marks nothing. -/
theorem void_ind {zs : List Int} {n : Nat} {x : Rn} (h : WF zs n x) (hv : x.void = true) (p : Nat) : ind zs x p = 0 := by
  have e : heldR zs x = 0 := by
    have := runLen_held h
    simp only [Rn.void, beq_iff_eq] at hv
    omega
  unfold ind
  rw [if_neg]
  rintro ⟨a, b, c⟩
  have h0 := h.1
  have := held_none _ e (p - x.lo.toNat) (by omega)
  rw [show x.lo.toNat + (p - x.lo.toNat) = p by omega, c] at this
  cases this
theorem full_held {zs : List Int} {n : Nat} {x : Rn} (h : WF zs n x) (hv : x.void = false) : 0 < heldR zs x := by
  have := runLen_held h
  simp only [Rn.void, beq_eq_false_iff_ne] at hv
  omega

theorem sum_kept {zs : List Int} {n : Nat} (p : Nat) : ∀ xs : List Rn, (∀ x ∈ xs, WF zs n x) → sumInd zs p (kept xs) = sumInd zs p xs
  | [], _ => rfl
  | x :: xs, h => by
    have ih := sum_kept p xs fun y hy => h y (List.mem_cons_of_mem _ hy)
    unfold kept at ih ⊢
    cases hv : x.void
    · simp only [List.filter_cons, hv]
      simp only [Bool.not_false, if_true, sumInd, ih]
    · have := void_ind (h x List.mem_cons_self) hv p
      simp only [List.filter_cons, hv, Bool.not_true, sumInd, this]
      simp [ih]
theorem kept_mem {xs : List Rn} {x : Rn} (h : x ∈ kept xs) : x ∈ xs ∧ x.void = false := by
  simpa [kept] using h

theorem chain_mono : ∀ (xs : List Rn) (p q : Int), q ≤ p → Chain p xs → Chain q xs
  | [], _, _, _, _ => trivial
  | _ :: _, _, _, h, hc => ⟨by have := hc.1; omega, hc.2⟩
theorem chain_kept {zs : List Int} {n : Nat} : ∀ (xs : List Rn) (p : Int), (∀ x ∈ xs, WF zs n x) → Chain p xs → Chain p (kept xs)
  | [], _, _, _ => trivial
  | x :: xs, p, h, hc => by
    have hx := h x List.mem_cons_self
    have ih := chain_kept xs x.hi (fun y hy => h y (List.mem_cons_of_mem _ hy)) hc.2
    unfold kept at ih ⊢
    cases hv : x.void
    · simp only [List.filter_cons, hv]
      exact ⟨hc.1, ih⟩
    · simp only [List.filter_cons, hv, Bool.not_true]
      exact chain_mono _ x.hi p (by have := hc.1; have := hx.2.1; omega) ih
theorem chain_drop : ∀ (xs : List Rn) (k : Nat) (x : Rn) (p : Int), xs[k]? = some x → Chain p (xs.drop k) → p ≤ x.lo ∧ Chain x.hi (xs.drop (k + 1))
  | [], k, x, p, h, _ => by simp at h
  | y :: ys, 0, x, p, h, hc => by
    simp at h
    subst h
    exact hc
  | y :: ys, k + 1, x, p, h, hc => chain_drop ys k x p (by simpa using h) (by simpa using hc)

theorem outs_wf {zs : List Int} {n : Nat} {r : Rn} (h : WF zs n r) : ∀ x ∈ outs r n, WF zs n x := by
  intro x hx
  obtain ⟨h0, h1, h2, h3, h4⟩ := h
  simp [outs] at hx
  rcases hx with rfl | rfl | rfl
  · exact ⟨by simp, by simpa using h0, by simp; omega, by simp, fun i hi => by simp at hi⟩
  · exact ⟨h0, h1, h2, h3, h4⟩
  · exact ⟨by simp; omega, by simpa using h2, by simp, by simp, fun i hi => by simp at hi⟩
theorem outs_chain {zs : List Int} {n : Nat} {r : Rn} (_h : WF zs n r) : Chain 0 (outs r n) := ⟨by simp, by simp, by simp, trivial⟩
theorem outs_sum {zs : List Int} {n : Nat} {r : Rn} (h : WF zs n r) (p : Nat) (hp : p < n) : sumInd zs p (outs r n) = 1 - ind zs r p := by
  obtain ⟨h0, h1, h2, h3, h4⟩ := h
  have hs : ∀ q, holdsB zs 0 true q = true := fun q => by simp [holdsB, inB]
  have hn : holdsB zs r.len (!r.comp) (p : Int) = !holdsB zs r.len r.comp (p : Int) := by
    unfold holdsB
    cases inB zs r.len (p : Int) <;> cases r.comp <;> rfl
  simp only [outs, sumInd, ind, hs, hn]
  cases holdsB zs r.len r.comp (p : Int) <;> simp <;> repeat' split
  all_goals omega


/-- Of what was there in w, block g alone may have turned. -/
structure But (g : Nat) (w w' : World) : Prop where
  os : w'.os = w.os
  tape : w'.tape = w.tape
  output : w'.output = w.output
  size : w.heap.size ≤ w'.heap.size
  block : ∀ k, k < w.heap.size → k ≠ g → w'.heap[k]? = w.heap[k]?
theorem But.refl (g : Nat) (w : World) : But g w w := ⟨rfl, rfl, rfl, Nat.le_refl _, fun _ _ _ => rfl⟩
theorem But.step {g : Nat} {w a b : World} (h : But g w a) (hb : Below a.heap.size a b) : But g w b :=
  ⟨hb.os.trans h.os, hb.tape.trans h.tape, hb.output.trans h.output, Nat.le_trans h.size hb.size, fun k hk hne => (hb.block k (Nat.lt_of_lt_of_le hk h.size)).trans (h.block k hk hne)⟩
theorem But.only {g : Nat} {w a b : World} (h : But g w a) (hb : Only g a b) : But g w b :=
  ⟨hb.os.trans h.os, hb.tape.trans h.tape, hb.output.trans h.output, by rw [hb.size]; exact h.size, fun k hk hne => (hb.block k hne).trans (h.block k hk hne)⟩
theorem But.alloc {g : Nat} {w a : World} (h : But g w a) (o : Obj) : But g w (a.alloc o) := h.step ((Below.refl _ _).alloc (Nat.le_refl _) o)
theorem But.drew {g : Nat} {w a : World} (h : But g w a) : But g w a.drew := ⟨h.os, h.tape, h.output, h.size, h.block⟩
theorem But.drewN {g : Nat} {w a : World} (h : But g w a) (n : Nat) : But g w (a.drewN n) := ⟨h.os, h.tape, h.output, h.size, h.block⟩
theorem But.below {g B : Nat} {w a : World} (h : But g w a) (hB : B ≤ g) (hw : B ≤ w.heap.size) : Below B w a := ⟨h.os, h.tape, h.output, h.size, fun k hk => h.block k (by omega) (by omega)⟩
theorem But.blk {g : Nat} {w a : World} (h : But g w a) {k : Nat} {e : TypeId} {l : List Value} (hb : Blk w k e l) (hne : k ≠ g) : Blk a k e l := by
  have hk := hb.lt
  unfold Blk at hb ⊢
  rw [h.block k hk hne, hb]
theorem But.ats {g : Nat} {w a : World} (h : But g w a) {ad : Option Addr} {len : Nat} {zs : List Int} (ha : Ats w ad len zs) (hw : Away g ad) : Ats a ad len zs := by
  intro hp
  obtain ⟨b, off, rfl, hc⟩ := ha hp
  refine ⟨b, off, rfl, fun i hi => ?_⟩
  have hlt := World.block_lt_of_cell? w _ (hc i hi)
  rw [World.cell?_of_block (w := w) (h.block b hlt (hw _ rfl))]
  exact hc i hi
theorem Ats.below {B : Nat} {w a : World} (hb : Below B w a) (hB : w.heap.size ≤ B) {ad : Option Addr} {len : Nat} {zs : List Int} (ha : Ats w ad len zs) : Ats a ad len zs := by
  intro hp
  obtain ⟨b, off, rfl, hc⟩ := ha hp
  refine ⟨b, off, rfl, fun i hi => ?_⟩
  have hlt := World.block_lt_of_cell? w _ (hc i hi)
  rw [hb.cell (p := ⟨b, off + i, none⟩) (Nat.lt_of_lt_of_le hlt hB)]
  exact hc i hi

theorem flat_cells' {w : World} {g : Nat} {rs : List Rn} {rest : List Value} (h : Blk w g 37 (flat rs ++ rest)) {k : Nat} {r : Rn} (hr : rs[k]? = some r) :
    w.cell? ⟨g, k * 5, none⟩ = some (.int .i64 r.lo) ∧ w.cell? ⟨g, k * 5 + 1, none⟩ = some (.int .i64 r.hi) ∧ w.cell? ⟨g, k * 5 + 2, none⟩ = some (.slice r.ad r.len r.cap) ∧ w.cell? ⟨g, k * 5 + 3, none⟩ = some (.pointer r.of) ∧ w.cell? ⟨g, k * 5 + 4, none⟩ = some (.bool r.comp) := by
  have hk := (List.getElem?_eq_some_iff.1 hr).1
  have hl := flat_length rs
  have e : ∀ j, j < 5 → (flat rs ++ rest)[k * 5 + j]? = r.vals[j]? := fun j hj => by
    rw [List.getElem?_append_left (by omega)]
    exact flat_get rs k j r hr hj
  refine ⟨?_, ?_, ?_, ?_, ?_⟩
  · rw [h.cell, ← Nat.add_zero (k * 5), e 0 (by omega)]; rfl
  · rw [h.cell, e 1 (by omega)]; rfl
  · rw [h.cell, e 2 (by omega)]; rfl
  · rw [h.cell, e 3 (by omega)]; rfl
  · rw [h.cell, e 4 (by omega)]; rfl

/-- A run's box is read as it was. -/
theorem keep5 {w2 w3 : World} {b : Nat} {v0 v1 v2 v3 v4 : Value} (hb : Below w2.heap.size w2 w3)
    (h : w2.cell? ⟨b, 0, none⟩ = some v0 ∧ w2.cell? ⟨b, 1, none⟩ = some v1 ∧ w2.cell? ⟨b, 2, none⟩ = some v2 ∧ w2.cell? ⟨b, 3, none⟩ = some v3 ∧ w2.cell? ⟨b, 4, none⟩ = some v4) :
    w3.cell? ⟨b, 0, none⟩ = some v0 ∧ w3.cell? ⟨b, 1, none⟩ = some v1 ∧ w3.cell? ⟨b, 2, none⟩ = some v2 ∧ w3.cell? ⟨b, 3, none⟩ = some v3 ∧ w3.cell? ⟨b, 4, none⟩ = some v4 := by
  obtain ⟨h1, h2, h3, h4, h5⟩ := h
  have h0 := World.block_lt_of_cell? _ _ h1
  exact ⟨by rw [hb.cell (p := ⟨b, 0, none⟩) h0]; exact h1, by rw [hb.cell (p := ⟨b, 1, none⟩) h0]; exact h2, by rw [hb.cell (p := ⟨b, 2, none⟩) h0]; exact h3, by rw [hb.cell (p := ⟨b, 3, none⟩) h0]; exact h4, by rw [hb.cell (p := ⟨b, 4, none⟩) h0]; exact h5⟩
theorem keep5o {w2 w3 : World} {b g : Nat} {v0 v1 v2 v3 v4 : Value} (hne : b ≠ g) (hb : Only g w2 w3)
    (h : w2.cell? ⟨b, 0, none⟩ = some v0 ∧ w2.cell? ⟨b, 1, none⟩ = some v1 ∧ w2.cell? ⟨b, 2, none⟩ = some v2 ∧ w2.cell? ⟨b, 3, none⟩ = some v3 ∧ w2.cell? ⟨b, 4, none⟩ = some v4) :
    w3.cell? ⟨b, 0, none⟩ = some v0 ∧ w3.cell? ⟨b, 1, none⟩ = some v1 ∧ w3.cell? ⟨b, 2, none⟩ = some v2 ∧ w3.cell? ⟨b, 3, none⟩ = some v3 ∧ w3.cell? ⟨b, 4, none⟩ = some v4 := by
  obtain ⟨h1, h2, h3, h4, h5⟩ := h
  exact ⟨by rw [hb.cell (p := ⟨b, 0, none⟩) hne]; exact h1, by rw [hb.cell (p := ⟨b, 1, none⟩) hne]; exact h2, by rw [hb.cell (p := ⟨b, 2, none⟩) hne]; exact h3, by rw [hb.cell (p := ⟨b, 3, none⟩) hne]; exact h4, by rw [hb.cell (p := ⟨b, 4, none⟩) hne]; exact h5⟩

/-- 'zzMarkRun' over a well-formed run that holds someone, as a law calls it. -/
theorem markRunR (zs : List Int) (x : Rn) (prev : Int) (n g : Nat) (l : List Int) (w : World) (hx : WF zs n x) (hv : x.void = false) (hn2 : n ≤ 4096) (hats : Ats w x.ad x.len zs) (haway : Away g x.ad) (hblk : Blk w g 3 (ints l)) (hll : l.length = n) (hb : ∀ i, i < n → 0 ≤ l.getD i 0 ∧ l.getD i 0 ≤ 1000) (hprev : prev ≤ x.lo) :
    Calls Try.prog 24 #[.int .i64 x.lo, .int .i64 x.hi, .slice x.ad x.len x.cap, .bool x.comp, .int .i64 (runLen x.lo x.hi x.len x.comp), .int .i64 prev, .int .i64 (n : Int), .slice (some ⟨g, 0, none⟩) n n] w fun e w' =>
      e = .returned (.tuple #[.int .i64 x.hi, .bool true]) ∧ Blk w' g 3 (ints (markR zs x l)) ∧ Only g w w' := by
  have hlo : (x.lo.toNat : Int) = x.lo := by have := hx.1; omega
  have h := markRun_any x.lo.toNat x.hi x.ad x.len x.cap zs x.comp (runLen x.lo x.hi x.len x.comp) prev n g l w (by rw [hlo]; exact hx.2.1) hx.2.2.1 hn2 hx.2.2.2.1 (by rw [hlo]; exact hx.2.2.2.2) hats haway hblk hll hb (by rw [hlo]; exact hprev) (runLen_held hx) (full_held hx hv)
  rw [hlo] at h
  exact h

/-- 'zzMark' over a well-formed run. -/
theorem markOne (zs : List Int) (x : Rn) (n g : Nat) (l : List Int) (w : World) (hx : WF zs n x) (hn2 : n ≤ 4096) (hats : Ats w x.ad x.len zs) (haway : Away g x.ad) (hblk : Blk w g 3 (ints l)) (hll : l.length = n) (hb : ∀ i, i < n → 0 ≤ l.getD i 0 ∧ l.getD i 0 ≤ 1000) :
    Calls Try.prog 17 #[.int .i64 x.lo, .int .i64 x.hi, .slice x.ad x.len x.cap, .bool x.comp, .int .i64 (n : Int), .slice (some ⟨g, 0, none⟩) n n] w fun e w' =>
      e = .returned (.tuple #[.int .i64 (heldR zs x : Int), .bool true]) ∧ Blk w' g 3 (ints (markR zs x l)) ∧ Only g w w' := by
  have hlo : (x.lo.toNat : Int) = x.lo := by have := hx.1; omega
  have h := mark_any x.lo.toNat x.hi x.ad x.len x.cap zs x.comp n g l w (by rw [hlo]; exact hx.2.1) hx.2.2.1 hn2 hx.2.2.2.1 (by rw [hlo]; exact hx.2.2.2.2) hats haway hblk hll hb
  rw [hlo] at h
  exact h

theorem Own.away {w : World} {lo g : Nat} {ad : Option Addr} {len : Nat} {zs : List Int} (h : Own w lo ad len zs) (hg : g < lo ∨ w.heap.size ≤ g) : Away g ad := by
  intro x hx
  rcases h with ⟨h, _⟩ | ⟨k, l, h1, h2, h3, _⟩
  · rw [h] at hx; cases hx
  · rw [h2] at hx
    cases hx
    have := h3.lt
    show k ≠ g
    omega
theorem Own.none {w : World} {lo : Nat} {ad : Option Addr} {len : Nat} {zs : List Int} (h : Own w lo ad len zs) : ad = none → len = 0 := by
  rintro rfl
  rcases h with ⟨_, h⟩ | ⟨k, l, h1, h2, _⟩
  · exact h
  · cases h2


/-- All that a caller of 'zzMarkRun' over outside's runs must know of them. -/
structure Good (zs : List Int) (n : Nat) (w : World) (g : Nat) (xs : List Rn) : Prop where
  short : xs.length ≤ 3
  chain : Chain 0 xs
  each : ∀ x ∈ xs, WF zs n x ∧ x.void = false ∧ Ats w x.ad x.len zs ∧ Away g x.ad

theorem outs_good {zs : List Int} {n : Nat} {r : Rn} {w : World} {g : Nat} (h : WF zs n r) (ha : Ats w r.ad r.len zs) (hw : Away g r.ad) : Good zs n w g (kept (outs r n)) := by
  refine ⟨?_, chain_kept _ _ (outs_wf h) (outs_chain h), fun x hx => ?_⟩
  · have := List.length_filter_le (fun r => !Rn.void r) (outs r n)
    simpa [kept, outs] using this
  · obtain ⟨hm, hv⟩ := kept_mem hx
    refine ⟨outs_wf h x hm, hv, ?_⟩
    simp [outs] at hm
    rcases hm with rfl | rfl | rfl
    · exact ⟨fun h => by simp at h, fun x hx => by simp at hx⟩
    · exact ⟨ha, hw⟩
    · exact ⟨fun h => by simp at h, fun x hx => by simp at hx⟩
theorem outs_kept_sum {zs : List Int} {n : Nat} {r : Rn} (h : WF zs n r) (p : Nat) (hp : p < n) : sumInd zs p (kept (outs r n)) = 1 - ind zs r p := by
  rw [sum_kept p _ (outs_wf h), outs_sum h p hp]
theorem replicate_get (n p : Nat) (h : p < n) : (List.replicate n (0 : Int)).getD p 0 = 0 := by simp [h]
theorem Good.bound {zs : List Int} {n : Nat} {w : World} {g : Nat} {xs : List Rn} (h : Good zs n w g xs) (k : Nat) : ∀ i, i < n → 0 ≤ (markAll zs (xs.take k) (List.replicate n 0)).getD i 0 ∧ (markAll zs (xs.take k) (List.replicate n 0)).getD i 0 ≤ 1000 := fun i hi =>
  markAll_bound (n := n) (xs.take k) n i (fun x hx => (h.each x (List.mem_of_mem_take hx)).1) (by have := h.short; rw [List.length_take]; omega) hi


/-- All that was there in a is there in b as it was. -/
structure From (a b : World) : Prop where
  below : Below a.heap.size a b
theorem From.step {a b c : World} (h : From a b) (hb : Below b.heap.size b c) : From a c := ⟨h.below.trans (hb.mono h.below.size)⟩
theorem markRunF (zs : List Int) (x : Rn) (prev : Int) (n g : Nat) (l : List Int) (wr w : World) (hf : From wr w) (hx : WF zs n x) (hv : x.void = false) (hn2 : n ≤ 4096) (hats : Ats wr x.ad x.len zs) (haway : Away g x.ad) (hblk : Blk wr g 3 (ints l)) (hll : l.length = n) (hb : ∀ i, i < n → 0 ≤ l.getD i 0 ∧ l.getD i 0 ≤ 1000) (hprev : prev ≤ x.lo) :
    Calls Try.prog 24 #[.int .i64 x.lo, .int .i64 x.hi, .slice x.ad x.len x.cap, .bool x.comp, .int .i64 (runLen x.lo x.hi x.len x.comp), .int .i64 prev, .int .i64 (n : Int), .slice (some ⟨g, 0, none⟩) n n] w fun e w' =>
      e = .returned (.tuple #[.int .i64 x.hi, .bool true]) ∧ Blk w' g 3 (ints (markR zs x l)) ∧ Only g w w' ∧ But g wr w' :=
  (markRunR zs x prev n g l w hx hv hn2 (hats.below hf.below (Nat.le_refl _)) haway (hblk.below hf.below hblk.lt) hll hb hprev).mono fun _ _ ⟨h1, h2, h3⟩ => ⟨h1, h2, h3, ((But.refl g wr).step hf.below).only h3⟩
theorem But.trans {g : Nat} {a b c : World} (h : But g a b) (k : But g b c) : But g a c :=
  ⟨k.os.trans h.os, k.tape.trans h.tape, k.output.trans h.output, Nat.le_trans h.size k.size, fun i hi hne => (k.block i (Nat.lt_of_lt_of_le hi h.size) hne).trans (h.block i hi hne)⟩


theorem ind_out (zs : List Int) (x : Rn) (p : Nat) (h : (p : Int) < x.lo ∨ x.hi ≤ (p : Int)) : ind zs x p = 0 := by
  unfold ind
  rw [if_neg (by omega)]
theorem ind_inv (zs : List Int) (x : Rn) (p : Nat) (h1 : x.lo ≤ (p : Int)) (h2 : (p : Int) < x.hi) : ind zs ⟨x.lo, x.hi, x.ad, x.len, x.cap, x.of, !x.comp⟩ p = 1 - ind zs x p := by
  have hn : holdsB zs x.len (!x.comp) (p : Int) = !holdsB zs x.len x.comp (p : Int) := by
    unfold holdsB
    cases inB zs x.len (p : Int) <;> cases x.comp <;> rfl
  simp only [ind, hn]
  cases holdsB zs x.len x.comp (p : Int) <;> simp [h1, h2]

end Go.Proofs.Qxb6615808a
