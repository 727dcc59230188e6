/-
  Memory that the call itself makes: a block of known cells; 'make' as a law of the walk; what stays as it was.
-/
import Derived.Test.Qxb6615810aRows
import Derived.WalkKit
import Derived.WalkSpells
import Derived.WalkLawsBesides
namespace Go.Proofs.Qxb6615810a
open Go.RowKit

/-- It returns one bool or the other. -/
def RetB (e : Ending) : Prop := ∃ b : Bool, e = .returned (.bool b)
theorem hide {p : Prop} (h : p) : Hid p := h
theorem ret_bool {a b : Bool} (h : a = b) : Ending.returned (.bool a) = .returned (.bool b) := by rw [h]
theorem ret_int {a b : Int} (h : a = b) : Ending.returned (.int .i64 a) = .returned (.int .i64 b) := by rw [h]

/-- The slice's 'len' numbers lie in memory: they are the first of zs. -/
def Ats (w : World) (ad : Option Addr) (len : Nat) (zs : List Int) : Prop :=
  0 < len → ∃ b off, ad = some ⟨b, off, none⟩ ∧ ∀ i, i < len → w.cell? ⟨b, off + i, none⟩ = some (.int .i64 (zs.getD i 0))

/-- Block g holds the cells l, all of them free to be written. -/
def Blk (w : World) (g : Nat) (e : TypeId) (l : List Value) : Prop := w.heap[g]? = some (.cells l.toArray e (0, 0))

theorem Blk.cell {w : World} {g : Nat} {e : TypeId} {l : List Value} (h : Blk w g e l) (i : Nat) : w.cell? ⟨g, i, none⟩ = l[i]? := by
  rw [cell_of_row w g i _ _ _ h]; simp
theorem Blk.free {w : World} {g : Nat} {e : TypeId} {l : List Value} (h : Blk w g e l) (i : Nat) : w.frozen? ⟨g, i, none⟩ = false := by
  unfold Blk at h
  simp [World.frozen?, h]
theorem Blk.lt {w : World} {g : Nat} {e : TypeId} {l : List Value} (h : Blk w g e l) : g < w.heap.size := (Array.getElem?_eq_some_iff.1 h).1
theorem Blk.below {B : Nat} {w w' : World} {g : Nat} {e : TypeId} {l : List Value} (h : Blk w g e l) (hb : Below B w w') (hg : g < B) : Blk w' g e l := by
  unfold Blk at h ⊢
  rw [hb.block g hg, h]
theorem Blk.set {w : World} {g : Nat} {e : TypeId} {l : List Value} (h : Blk w g e l) (i : Nat) (v : Value) : Blk (w.setCell ⟨g, i, none⟩ v) g e (l.set i v) := by
  unfold Blk at h ⊢
  simp [World.setCell, Array.getElem?_modify, h]
theorem Blk.alloc {w : World} {g : Nat} {e : TypeId} {l : List Value} (h : Blk w g e l) (o : Obj) : Blk (w.alloc o) g e l := h.below ((Below.refl _ _).alloc (Nat.le_refl _) o) h.lt
theorem Blk.setOther {w : World} {g : Nat} {e : TypeId} {l : List Value} (h : Blk w g e l) (a : Addr) (v : Value) (hne : g ≠ a.block) : Blk (w.setCell a v) g e l := by
  unfold Blk at h ⊢
  rw [Below.heap_setCell _ _ _ _ hne, h]
theorem Blk.new (w : World) (l : List Value) (e : TypeId) : Blk (w.alloc (.cells l.toArray e)) w.heap.size e l := by
  unfold Blk
  show (w.heap.push _)[w.heap.size]? = _
  simp

/-- 'make([]T, n)', T of one cell: a new block of n zeros. -/
theorem wpList_make_blk {P : Program} (w : World) {ops : Array Oper} {rest : List Oper} {o : Oper} {a : Act} {Q : Exit → Act → World → Prop}
    (hg : o.guard = none) (l c : Operand) (t : TypeId) (hop : o.op = Op.makeSlice t l c)
    (e : TypeId) (i : TypeInfo) (z : Value) (h1 : P.underlying t = some (.slice e)) (h2 : P.info? e = some i) (h3 : i.zero = some z) (h4 : i.size = 1) (h5 : z.cells = #[z])
    (kl kc : IntKind) (L C : Int) (n : Nat) (hl : a.eval l = .int kl L) (hc : a.eval c = .int kc C) (hL : L = (n : Int)) (hC : C = (n : Int)) (b2 : i.bytes * n ≤ 281474976710656) (b3 : n ≤ 9223372036854775807)
    (hK : ∀ w', Blk w' w.heap.size e (List.replicate n z) → Below w.heap.size w w' → w'.heap.size = w.heap.size + 1 → wpList P ops Q rest (a.put o.dst (.slice (some ⟨w.heap.size, 0, none⟩) n n)) w') :
    wpList P ops Q (o :: rest) a w := by
  refine wpList_plain hg fun K hK' => ?_
  have hb' : (i.bytes : Int) * (n : Int) ≤ 281474976710656 := by
    have h : ((i.bytes * n : Nat) : Int) ≤ 281474976710656 := by omega
    rwa [Int.natCast_mul] at h
  have hr := run_make (P := P) w t e i z h1 h2 h3 kl kc n n (by omega) (Int.le_refl _) hb' (by omega)
  simp only [Int.toNat_natCast] at hr
  rw [h5, h4, Nat.mul_one] at hr
  subst hL
  subst hC
  unfold Oper.wp
  simp [execOp, hop, hl, hc, hr, Result.andThen]
  refine hK' _ _ (hK _ ?_ ((Below.refl _ _).alloc (Nat.le_refl _) _) (by simp))
  have hn := Blk.new w (List.replicate n z) e
  rw [← toList_madeCells_one, Array.toArray_toList] at hn
  rw [← toList_madeCells_one]
  exact hn

/-- The numbers, as cells. -/
def ints (l : List Int) : List Value := l.map (Value.int .i64)
theorem ints_get (l : List Int) (i : Nat) (h : i < l.length) : (ints l)[i]? = some (.int .i64 (l.getD i 0)) := by
  simp [ints, h]
theorem ints_set (l : List Int) (i : Nat) (v : Int) : (ints l).set i (.int .i64 v) = ints (l.set i v) := by
  simp [ints, List.map_set]
theorem ints_replicate (n : Nat) : List.replicate n (Value.int .i64 0) = ints (List.replicate n 0) := by simp [ints]
theorem ints_length (l : List Int) : (ints l).length = l.length := by simp [ints]

/-- Block g alone has turned; no block is new. -/
structure Only (g : Nat) (w w' : World) : Prop where
  os : w'.os = w.os
  tape : w'.tape = w.tape
  output : w'.output = w.output
  size : w'.heap.size = w.heap.size
  block : ∀ k, k ≠ g → w'.heap[k]? = w.heap[k]?

theorem Only.refl (g : Nat) (w : World) : Only g w w := ⟨rfl, rfl, rfl, rfl, fun _ _ => rfl⟩
theorem Only.trans {g : Nat} {a b c : World} (h : Only g a b) (k : Only g b c) : Only g a c :=
  ⟨k.os.trans h.os, k.tape.trans h.tape, k.output.trans h.output, k.size.trans h.size, fun i hi => (k.block i hi).trans (h.block i hi)⟩
theorem Only.drewN {g : Nat} {a b : World} (h : Only g a b) (n : Nat) : Only g a (b.drewN n) := h.trans ⟨rfl, rfl, rfl, rfl, fun _ _ => rfl⟩
theorem Only.setCell {g : Nat} {a b : World} (h : Only g a b) (o : Nat) (v : Value) : Only g a (b.setCell ⟨g, o, none⟩ v) :=
  h.trans ⟨rfl, rfl, rfl, by simp [World.setCell], fun i hi => Below.heap_setCell _ _ _ _ hi⟩
theorem Only.below {g B : Nat} {a b : World} (h : Only g a b) (hB : B ≤ g) : Below B a b := ⟨h.os, h.tape, h.output, by rw [h.size]; exact Nat.le_refl _, fun k hk => h.block k (by omega)⟩
theorem Only.cell {g : Nat} {a b : World} (h : Only g a b) {p : Addr} (hp : p.block ≠ g) : b.cell? p = a.cell? p := World.cell?_of_block (w := a) (h.block p.block hp)
theorem Blk.only {g : Nat} {a b : World} {k : Nat} {e : TypeId} {l : List Value} (h : Blk a k e l) (ho : Only g a b) (hne : k ≠ g) : Blk b k e l := by
  unfold Blk at h ⊢
  rw [ho.block k hne, h]
theorem Blk.drewN {a : World} {k : Nat} {e : TypeId} {l : List Value} (h : Blk a k e l) (n : Nat) : Blk (a.drewN n) k e l := h

/-- The slice does not lie in block g. -/
def Away (g : Nat) (ad : Option Addr) : Prop := ∀ x, ad = some x → x.block ≠ g

/-- Of what was there in w, block g alone may have turned. -/
structure But (g : Nat) (w w' : World) : Prop where
  os : w'.os = w.os
  tape : w'.tape = w.tape
  output : w'.output = w.output
  size : w.heap.size ≤ w'.heap.size
  block : ∀ k, k < w.heap.size → k ≠ g → w'.heap[k]? = w.heap[k]?
theorem But.refl (g : Nat) (w : World) : But g w w := ⟨rfl, rfl, rfl, Nat.le_refl _, fun _ _ _ => rfl⟩
theorem But.step {g : Nat} {w a b : World} (h : But g w a) (hb : Below a.heap.size a b) : But g w b :=
  ⟨hb.os.trans h.os, hb.tape.trans h.tape, hb.output.trans h.output, Nat.le_trans h.size hb.size, fun k hk hne => (hb.block k (Nat.lt_of_lt_of_le hk h.size)).trans (h.block k hk hne)⟩
theorem But.only {g : Nat} {w a b : World} (h : But g w a) (hb : Only g a b) : But g w b :=
  ⟨hb.os.trans h.os, hb.tape.trans h.tape, hb.output.trans h.output, by rw [hb.size]; exact h.size, fun k hk hne => (hb.block k hne).trans (h.block k hk hne)⟩
theorem But.alloc {g : Nat} {w a : World} (h : But g w a) (o : Obj) : But g w (a.alloc o) := h.step ((Below.refl _ _).alloc (Nat.le_refl _) o)
theorem But.drew {g : Nat} {w a : World} (h : But g w a) : But g w a.drew := ⟨h.os, h.tape, h.output, h.size, h.block⟩
theorem But.drewN {g : Nat} {w a : World} (h : But g w a) (n : Nat) : But g w (a.drewN n) := ⟨h.os, h.tape, h.output, h.size, h.block⟩
theorem But.below {g B : Nat} {w a : World} (h : But g w a) (hB : B ≤ g) (hw : B ≤ w.heap.size) : Below B w a := ⟨h.os, h.tape, h.output, h.size, fun k hk => h.block k (by omega) (by omega)⟩
theorem But.blk {g : Nat} {w a : World} (h : But g w a) {k : Nat} {e : TypeId} {l : List Value} (hb : Blk w k e l) (hne : k ≠ g) : Blk a k e l := by
  have hk := hb.lt
  unfold Blk at hb ⊢
  rw [h.block k hk hne, hb]
theorem But.ats {g : Nat} {w a : World} (h : But g w a) {ad : Option Addr} {len : Nat} {zs : List Int} (ha : Ats w ad len zs) (hw : Away g ad) : Ats a ad len zs := by
  intro hp
  obtain ⟨b, off, rfl, hc⟩ := ha hp
  refine ⟨b, off, rfl, fun i hi => ?_⟩
  have hlt := World.block_lt_of_cell? w _ (hc i hi)
  rw [World.cell?_of_block (w := w) (h.block b hlt (hw _ rfl))]
  exact hc i hi
theorem Ats.below {B : Nat} {w a : World} (hb : Below B w a) (hB : w.heap.size ≤ B) {ad : Option Addr} {len : Nat} {zs : List Int} (ha : Ats w ad len zs) : Ats a ad len zs := by
  intro hp
  obtain ⟨b, off, rfl, hc⟩ := ha hp
  refine ⟨b, off, rfl, fun i hi => ?_⟩
  have hlt := World.block_lt_of_cell? w _ (hc i hi)
  rw [hb.cell (p := ⟨b, off + i, none⟩) (Nat.lt_of_lt_of_le hlt hB)]
  exact hc i hi

/-- All that was there in a is there in b as it was. -/
structure From (a b : World) : Prop where
  below : Below a.heap.size a b
theorem From.step {a b c : World} (h : From a b) (hb : Below b.heap.size b c) : From a c := ⟨h.below.trans (hb.mono h.below.size)⟩
theorem But.trans {g : Nat} {a b c : World} (h : But g a b) (k : But g b c) : But g a c :=
  ⟨k.os.trans h.os, k.tape.trans h.tape, k.output.trans h.output, Nat.le_trans h.size k.size, fun i hi hne => (k.block i (Nat.lt_of_lt_of_le hi h.size) hne).trans (h.block i hi hne)⟩

theorem bcell {W w1 : World} (hb : Below W.heap.size W w1) : (∀ b o, b < W.heap.size → w1.cell? ⟨b, o, none⟩ = W.cell? ⟨b, o, none⟩) ∧ (∀ b o, b < W.heap.size → w1.frozen? ⟨b, o, none⟩ = W.frozen? ⟨b, o, none⟩) :=
  ⟨fun b o h => hb.cell (p := ⟨b, o, none⟩) h, fun b o h => hb.frozen (p := ⟨b, o, none⟩) h⟩
theorem spot_none {w : World} {a : Addr} {v : Value} (h : w.cell? a = some v) : ∃ b off, a = ⟨b, off, none⟩ := by
  obtain ⟨b, off, s⟩ := a
  unfold World.cell? at h
  cases s with
  | none => exact ⟨b, off, rfl⟩
  | some s =>
    split at h
    · simp at h
    · cases h
theorem add_lit (b off i : Nat) : (⟨b, off, none⟩ : Addr).add i = ⟨b, off + i, none⟩ := by
  unfold Addr.add
  split <;> simp_all

theorem ats_of {w : World} {x : Addr} {len : Nat} {zs : List Int} (h : ∀ i, i < zs.length → w.cell? (x.add i) = some (.int .i64 (zs.getD i 0))) (hl : len ≤ zs.length) : Ats w (some x) len zs := by
  intro hp
  have h0 := h 0 (by omega)
  rw [show x.add 0 = x from rfl] at h0
  obtain ⟨b, off, rfl⟩ := spot_none h0
  exact ⟨b, off, rfl, fun i hi => by rw [← add_lit]; exact h i (by omega)⟩

end Go.Proofs.Qxb6615810a
