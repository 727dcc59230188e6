/-
  Memory that the call itself makes: a block of known cells; 'make' as a law of the walk.
-/
import Derived.Test.Qxb6615808aStr
namespace Go.Proofs.Qxb6615808a
open Go.RowKit

/-- Block g holds the cells l, all of them free to be written. -/
def Blk (w : World) (g : Nat) (e : TypeId) (l : List Value) : Prop := w.heap[g]? = some (.cells l.toArray e (0, 0))

theorem Blk.cell {w : World} {g : Nat} {e : TypeId} {l : List Value} (h : Blk w g e l) (i : Nat) : w.cell? ⟨g, i, none⟩ = l[i]? := by
  rw [cell_of_row w g i _ _ _ h]; simp
theorem Blk.free {w : World} {g : Nat} {e : TypeId} {l : List Value} (h : Blk w g e l) (i : Nat) : w.frozen? ⟨g, i, none⟩ = false := by
  unfold Blk at h
  simp [World.frozen?, h]
theorem Blk.lt {w : World} {g : Nat} {e : TypeId} {l : List Value} (h : Blk w g e l) : g < w.heap.size := (Array.getElem?_eq_some_iff.1 h).1
theorem Blk.below {B : Nat} {w w' : World} {g : Nat} {e : TypeId} {l : List Value} (h : Blk w g e l) (hb : Below B w w') (hg : g < B) : Blk w' g e l := by
  unfold Blk at h ⊢
  rw [hb.block g hg, h]
theorem Blk.set {w : World} {g : Nat} {e : TypeId} {l : List Value} (h : Blk w g e l) (i : Nat) (v : Value) : Blk (w.setCell ⟨g, i, none⟩ v) g e (l.set i v) := by
  unfold Blk at h ⊢
  simp [World.setCell, Array.getElem?_modify, h]
theorem Blk.alloc {w : World} {g : Nat} {e : TypeId} {l : List Value} (h : Blk w g e l) (o : Obj) : Blk (w.alloc o) g e l := h.below ((Below.refl _ _).alloc (Nat.le_refl _) o) h.lt
theorem Blk.setOther {w : World} {g : Nat} {e : TypeId} {l : List Value} (h : Blk w g e l) (a : Addr) (v : Value) (hne : g ≠ a.block) : Blk (w.setCell a v) g e l := by
  unfold Blk at h ⊢
  rw [Below.heap_setCell _ _ _ _ hne, h]
theorem Blk.new (w : World) (l : List Value) (e : TypeId) : Blk (w.alloc (.cells l.toArray e)) w.heap.size e l := by
  unfold Blk
  show (w.heap.push _)[w.heap.size]? = _
  simp

/-- 'make([]T, n)', T of one cell: a new block of n zeros. -/
theorem wpList_make_blk {P : Program} (w : World) {ops : Array Oper} {rest : List Oper} {o : Oper} {a : Act} {Q : Exit → Act → World → Prop}
    (hg : o.guard = none) (l c : Operand) (t : TypeId) (hop : o.op = Op.makeSlice t l c)
    (e : TypeId) (i : TypeInfo) (z : Value) (h1 : P.underlying t = some (.slice e)) (h2 : P.info? e = some i) (h3 : i.zero = some z) (h4 : i.size = 1) (h5 : z.cells = #[z])
    (kl kc : IntKind) (L C : Int) (n : Nat) (hl : a.eval l = .int kl L) (hc : a.eval c = .int kc C) (hL : L = (n : Int)) (hC : C = (n : Int)) (b2 : i.bytes * n ≤ 281474976710656) (b3 : n ≤ 9223372036854775807)
    (hK : ∀ w', Blk w' w.heap.size e (List.replicate n z) → Below w.heap.size w w' → w'.heap.size = w.heap.size + 1 → wpList P ops Q rest (a.put o.dst (.slice (some ⟨w.heap.size, 0, none⟩) n n)) w') :
    wpList P ops Q (o :: rest) a w := by
  refine wpList_plain hg fun K hK' => ?_
  have hb' : (i.bytes : Int) * (n : Int) ≤ 281474976710656 := by
    have h : ((i.bytes * n : Nat) : Int) ≤ 281474976710656 := by omega
    rwa [Int.natCast_mul] at h
  have hr := run_make (P := P) w t e i z h1 h2 h3 kl kc n n (by omega) (Int.le_refl _) hb' (by omega)
  simp only [Int.toNat_natCast] at hr
  rw [h5, h4, Nat.mul_one] at hr
  subst hL
  subst hC
  unfold Oper.wp
  simp [execOp, hop, hl, hc, hr, Result.andThen]
  refine hK' _ _ (hK _ ?_ ((Below.refl _ _).alloc (Nat.le_refl _) _) (by simp))
  have hn := Blk.new w (List.replicate n z) e
  rw [← toList_madeCells_one, Array.toArray_toList] at hn
  rw [← toList_madeCells_one]
  exact hn

theorem Try.info3 : (Try.prog.info? 3).map (fun i => (i.zero, i.size, i.bytes)) = some (some (.int .i64 0), 1, 8) := by kernel_rfl
theorem Try.info4 : (Try.prog.info? 4).map (fun i => (i.zero, i.size, i.bytes)) = some (some (.bool false), 1, 1) := by kernel_rfl
theorem Try.info9 : (Try.prog.info? 9).map (fun i => (i.zero, i.size, i.bytes)) = some (some (.string ⟨#[]⟩), 1, 16) := by kernel_rfl

/-- The numbers, as cells. -/
def ints (l : List Int) : List Value := l.map (Value.int .i64)
theorem ints_get (l : List Int) (i : Nat) (h : i < l.length) : (ints l)[i]? = some (.int .i64 (l.getD i 0)) := by
  simp [ints, h]
theorem ints_set (l : List Int) (i : Nat) (v : Int) : (ints l).set i (.int .i64 v) = ints (l.set i v) := by
  simp [ints, List.map_set]
theorem ints_replicate (n : Nat) : List.replicate n (Value.int .i64 0) = ints (List.replicate n 0) := by simp [ints]
theorem ints_length (l : List Int) : (ints l).length = l.length := by simp [ints]

/-- A copy is made cell by cell. -/
def copied (zs : List Int) (n k : Nat) : List Int := (List.range n).map fun i => if i < k then zs.getD i 0 else 0
theorem copied_length (zs : List Int) (n k : Nat) : (copied zs n k).length = n := by simp [copied]
theorem copied_zero (zs : List Int) (n : Nat) : copied zs n 0 = List.replicate n 0 := by
  apply List.ext_getElem
  · simp [copied]
  · intro i h1 h2
    simp [copied]
theorem copied_succ (zs : List Int) (n k : Nat) : (copied zs n k).set k (zs.getD k 0) = copied zs n (k + 1) := by
  apply List.ext_getElem
  · simp [copied]
  · intro i h1 h2
    simp only [copied, List.getElem_set, List.getElem_map, List.getElem_range]
    by_cases e : k = i
    · subst e; simp
    · simp only [e, if_false]
      by_cases g : i < k
      · rw [if_pos g, if_pos (by omega)]
      · rw [if_neg g, if_neg (by omega)]
theorem copied_get (zs : List Int) (n k i : Nat) (h : i < n) (hk : i < k) : (copied zs n k).getD i 0 = zs.getD i 0 := by
  simp [copied, h, hk]

end Go.Proofs.Qxb6615808a
