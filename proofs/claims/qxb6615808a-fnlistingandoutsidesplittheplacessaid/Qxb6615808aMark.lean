/-
  The walks of 'zzMark' (17) and 'zzMarkRun' (24).
-/
import Derived.Test.Qxb6615808aClone
import Derived.Test.Qxb6615808aPlain
namespace Go.Proofs.Qxb6615808a
open Go.RowKit

/-- Block g alone has turned; no block is new. -/
structure Only (g : Nat) (w w' : World) : Prop where
  os : w'.os = w.os
  tape : w'.tape = w.tape
  output : w'.output = w.output
  size : w'.heap.size = w.heap.size
  block : ∀ k, k ≠ g → w'.heap[k]? = w.heap[k]?

theorem Only.refl (g : Nat) (w : World) : Only g w w := ⟨rfl, rfl, rfl, rfl, fun _ _ => rfl⟩
theorem Only.trans {g : Nat} {a b c : World} (h : Only g a b) (k : Only g b c) : Only g a c :=
  ⟨k.os.trans h.os, k.tape.trans h.tape, k.output.trans h.output, k.size.trans h.size, fun i hi => (k.block i hi).trans (h.block i hi)⟩
theorem Only.drewN {g : Nat} {a b : World} (h : Only g a b) (n : Nat) : Only g a (b.drewN n) := h.trans ⟨rfl, rfl, rfl, rfl, fun _ _ => rfl⟩
theorem Only.setCell {g : Nat} {a b : World} (h : Only g a b) (o : Nat) (v : Value) : Only g a (b.setCell ⟨g, o, none⟩ v) :=
  h.trans ⟨rfl, rfl, rfl, by simp [World.setCell], fun i hi => Below.heap_setCell _ _ _ _ hi⟩
theorem Only.below {g B : Nat} {a b : World} (h : Only g a b) (hB : B ≤ g) : Below B a b := ⟨h.os, h.tape, h.output, by rw [h.size]; exact Nat.le_refl _, fun k hk => h.block k (by omega)⟩
theorem Only.cell {g : Nat} {a b : World} (h : Only g a b) {p : Addr} (hp : p.block ≠ g) : b.cell? p = a.cell? p := World.cell?_of_block (w := a) (h.block p.block hp)
theorem Blk.only {g : Nat} {a b : World} {k : Nat} {e : TypeId} {l : List Value} (h : Blk a k e l) (ho : Only g a b) (hne : k ≠ g) : Blk b k e l := by
  unfold Blk at h ⊢
  rw [ho.block k hne, h]
theorem Blk.drewN {a : World} {k : Nat} {e : TypeId} {l : List Value} (h : Blk a k e l) (n : Nat) : Blk (a.drewN n) k e l := h

/-- The slice does not lie in block g. -/
def Away (g : Nat) (ad : Option Addr) : Prop := ∀ x, ad = some x → x.block ≠ g

theorem asc_iff {zs : List Int} {len : Nat} {lo hi : Int} : ascB zs len lo hi = true ↔ Asc zs len lo hi := decide_eq_true_iff

theorem ret_ib {a b : Int} (h : a = b) (c : Bool) : Ending.returned (.tuple #[.int .i64 a, .bool c]) = .returned (.tuple #[.int .i64 b, .bool c]) := by rw [h]

/-- What one round of 'zzMark' does, the place held or not. -/
theorem mark_step_yes {zs : List Int} {len : Nat} {comp : Bool} {a q : Nat} {l : List Int} (haq : a ≤ q) (h : holdsB zs len comp (q : Int) = true) :
    heldN zs len comp a (q + 1 - a) = heldN zs len comp a (q - a) + 1 ∧ (marked zs len comp a (q - a) l).set q ((marked zs len comp a (q - a) l).getD q 0 + 1) = marked zs len comp a (q + 1 - a) l := by
  have e : a + (q - a) = q := by omega
  rw [show q + 1 - a = (q - a) + 1 by omega]
  refine ⟨held_yes _ _ _ _ _ (by rw [e]; exact h), ?_⟩
  rw [marked_yes _ _ _ _ _ _ (by rw [e]; exact h), e]
theorem mark_step_no {zs : List Int} {len : Nat} {comp : Bool} {a q : Nat} {l : List Int} (haq : a ≤ q) (h : holdsB zs len comp (q : Int) = false) :
    heldN zs len comp a (q + 1 - a) = heldN zs len comp a (q - a) ∧ marked zs len comp a (q - a) l = marked zs len comp a (q + 1 - a) l := by
  have e : a + (q - a) = q := by omega
  rw [show q + 1 - a = (q - a) + 1 by omega]
  exact ⟨held_no _ _ _ _ _ (by rw [e]; exact h), (marked_no _ _ _ _ _ _ (by rw [e]; exact h)).symm⟩

set_option maxHeartbeats 1000000 in
theorem mark_any (a : Nat) (hi : Int) (ad : Option Addr) (len cap : Nat) (zs : List Int) (comp : Bool) (n g : Nat) (l : List Int) (w : World)
    (hlh : (a : Int) ≤ hi) (hn : hi ≤ (n : Int)) (hn2 : n ≤ 4096) (hlen : len ≤ 4096) (hasc : Asc zs len a hi) (hats : Ats w ad len zs) (haway : Away g ad) (hblk : Blk w g 3 (ints l)) (hll : l.length = n) (hb : ∀ i, i < n → 0 ≤ l.getD i 0 ∧ l.getD i 0 ≤ 1000) :
    Calls Try.prog 17 #[.int .i64 (a : Int), .int .i64 hi, .slice ad len cap, .bool comp, .int .i64 (n : Int), .slice (some ⟨g, 0, none⟩) n n] w fun e w' =>
      e = .returned (.tuple #[.int .i64 (heldN zs len comp a (hi.toNat - a) : Int), .bool true]) ∧ Blk w' g 3 (ints (marked zs len comp a (hi.toNat - a) l)) ∧ Only g w w' := by
  have HB := hide hblk
  have HA := hide hasc
  have HT := hide hats
  have HW := hide haway
  have HLL := hide hll
  have HBD := hide hb
  have hab := asc_iff.2 hasc
  clear hblk hasc haway hll hb
  go_enter Try.func17, Try.ntmps17
  go_wp2_with fail
  refine (asc_any ad len cap zs _ _ _ (by omega) hats).mono ?_
  rintro e w' ⟨rfl, nq, rfl⟩
  rw [hab]
  clear hab hats
  go_wp2
  go_loopw [14, 15, 16] (fun h j p wr => ∃ q m : Nat, a ≤ q ∧ (q : Int) ≤ hi ∧ p = .int .i64 (q : Int) ∧ m ≤ len ∧ j = .int .i64 (m : Int) ∧ (∀ i, i < m → zs.getD i 0 < (q : Int)) ∧ h = .int .i64 (heldN zs len comp a (q - a) : Int) ∧
      Blk wr g 3 (ints (marked zs len comp a (q - a) l)) ∧ Only g w wr) (fun _ _ p _ => hi.toNat - (intOf p).toNat)
  case atStart => exact ⟨a, 0, Nat.le_refl _, hlh, rfl, Nat.zero_le _, rfl, fun i h => by omega, by rw [Nat.sub_self]; rfl, by rw [Nat.sub_self, marked_zero]; exact HB.out, (Only.refl g w).drewN _⟩
  case round =>
    obtain ⟨q, m, haq, hq, rfl, hm, rfl, hbef, rfl, hblk, honly⟩ := hrel
    have HBF := hide hbef
    have HBK := hide hblk
    have HO := hide honly
    clear hbef hblk honly
    have hh := held_le zs len comp a (q - a)
    by_cases hlt : (q : Int) < hi
    · -- the cell of 'cnt' at this place
      obtain ⟨c, hc⟩ : ∃ c, c = (marked zs len comp a (q - a) l).getD q 0 := ⟨_, rfl⟩
      have hqn : q < n := by omega
      have hcv : c = l.getD q 0 := by rw [hc, marked_get _ _ _ _ _ _ _ (by rw [HLL.out]; omega), if_neg (by omega)]; omega
      have hcb := HBD.out q hqn
      rw [← hcv] at hcb
      have hcell : wr.cell? ⟨g, q, none⟩ = some (.int .i64 c) := by rw [HBK.out.cell, ints_get _ _ (by rw [marked_length, HLL.out]; exact hqn), ← hc]
      have hfree := HBK.out.free q
      have HC := hide hc
      clear hc hcv
      go_wp2_with fail
      go_loop [15] (fun j => ∃ m : Nat, m ≤ len ∧ j = .int .i64 (m : Int) ∧ ∀ i, i < m → zs.getD i 0 < (q : Int)) (fun j => len - (intOf j).toNat)
      case atStart => exact ⟨m, hm, rfl, HBF.out⟩
      case round =>
        clear HBF hm
        obtain ⟨j, hj, rfl, hbef⟩ := hrel
        have HBF := hide hbef
        clear hbef
        by_cases hml : j < len
        · obtain ⟨b, off, rfl, hcs⟩ := HT.out (by omega)
          obtain ⟨x, hx⟩ : ∃ x, x = zs.getD j 0 := ⟨_, rfl⟩
          have hxc : wr.cell? ⟨b, off + j, none⟩ = some (.int .i64 x) := by rw [HO.out.cell (p := ⟨b, off + j, none⟩) (show b ≠ g from HW.out ⟨b, off, none⟩ rfl), hx]; exact hcs j hml
          have HX := hide hx
          clear hcs hx
          by_cases h1 : x < (q : Int)
          · go_wp2
            go_round
            case rel => exact ⟨j + 1, by omega, by go_num, fun i hi' => by
                          by_cases e : i = j
                          · rw [e, ← HX.out]; exact h1
                          · exact HBF.out i (by omega)⟩
            case measure => simp [intOf]; omega
          · by_cases h2 : x = (q : Int)
            · have hin : inB zs len (q : Int) = true := in_yes j hml (by rw [← HX.out]; exact h2)
              have h2' : (x == (q : Int)) = true := beq_iff_eq.2 h2
              clear h2
              cases comp
              · have ST := hide (mark_step_yes (l := l) haq (show holdsB zs len false (q : Int) = true by simp only [holdsB, hin]; rfl))
                clear hin
                go_wp2
                go_roundw
                case rel => exact ⟨q + 1, j, by omega, by omega, by go_num, by omega, rfl, fun i hi' => by have := HBF.out i hi'; omega, by rw [ST.out.1]; go_num, by rw [← ST.out.2, ← HC.out, ← ints_set]; exact HBK.out.set _ _, HO.out.setCell _ _⟩
                case measure => simp [intOf]; omega
              · have ST := hide (mark_step_no (l := l) haq (show holdsB zs len true (q : Int) = false by simp only [holdsB, hin]; rfl))
                clear hin
                go_wp2
                go_roundw
                case rel => exact ⟨q + 1, j, by omega, by omega, by go_num, by omega, rfl, fun i hi' => by have := HBF.out i hi'; omega, by rw [ST.out.1], by rw [← ST.out.2]; exact HBK.out, HO.out⟩
                case measure => simp [intOf]; omega
            · have hin : inB zs len (q : Int) = false := in_no j HA.out HBF.out (fun _ => by rw [← HX.out]; omega)
              have h2' : (x == (q : Int)) = false := beq_eq_false_iff_ne.2 h2
              clear h2
              cases comp
              · have ST := hide (mark_step_no (l := l) haq (show holdsB zs len false (q : Int) = false by simp only [holdsB, hin]; rfl))
                clear hin
                go_wp2
                go_roundw
                case rel => exact ⟨q + 1, j, by omega, by omega, by go_num, by omega, rfl, fun i hi' => by have := HBF.out i hi'; omega, by rw [ST.out.1], by rw [← ST.out.2]; exact HBK.out, HO.out⟩
                case measure => simp [intOf]; omega
              · have ST := hide (mark_step_yes (l := l) haq (show holdsB zs len true (q : Int) = true by simp only [holdsB, hin]; rfl))
                clear hin
                go_wp2
                go_roundw
                case rel => exact ⟨q + 1, j, by omega, by omega, by go_num, by omega, rfl, fun i hi' => by have := HBF.out i hi'; omega, by rw [ST.out.1]; go_num, by rw [← ST.out.2, ← HC.out, ← ints_set]; exact HBK.out.set _ _, HO.out.setCell _ _⟩
                case measure => simp [intOf]; omega
        · have hin : inB zs len (q : Int) = false := in_no j HA.out HBF.out (fun h => absurd h hml)
          cases comp
          · have ST := hide (mark_step_no (l := l) haq (show holdsB zs len false (q : Int) = false by simp only [holdsB, hin]; rfl))
            clear hin
            go_wp2
            go_roundw
            case rel => exact ⟨q + 1, j, by omega, by omega, by go_num, by omega, rfl, fun i hi' => by have := HBF.out i hi'; omega, by rw [ST.out.1], by rw [← ST.out.2]; exact HBK.out, HO.out⟩
            case measure => simp [intOf]; omega
          · have ST := hide (mark_step_yes (l := l) haq (show holdsB zs len true (q : Int) = true by simp only [holdsB, hin]; rfl))
            clear hin
            go_wp2
            go_roundw
            case rel => exact ⟨q + 1, j, by omega, by omega, by go_num, by omega, rfl, fun i hi' => by have := HBF.out i hi'; omega, by rw [ST.out.1]; go_num, by rw [← ST.out.2, ← HC.out, ← ints_set]; exact HBK.out.set _ _, HO.out.setCell _ _⟩
            case measure => simp [intOf]; omega
    · go_wp2
      go_ret2
      obtain rfl : hi = (q : Int) := by omega
      rw [Int.toNat_natCast]
      exact ⟨rfl, HBK.out, HO.out⟩


set_option maxHeartbeats 400000 in
theorem markRun_any (a : Nat) (hi : Int) (ad : Option Addr) (len cap : Nat) (zs : List Int) (comp : Bool) (length prev : Int) (n g : Nat) (l : List Int) (w : World)
    (hlh : (a : Int) ≤ hi) (hn : hi ≤ (n : Int)) (hn2 : n ≤ 4096) (hlen : len ≤ 4096) (hasc : Asc zs len a hi) (hats : Ats w ad len zs) (haway : Away g ad) (hblk : Blk w g 3 (ints l)) (hll : l.length = n) (hb : ∀ i, i < n → 0 ≤ l.getD i 0 ∧ l.getD i 0 ≤ 1000)
    (hprev : prev ≤ (a : Int)) (hlength : length = (heldN zs len comp a (hi.toNat - a) : Int)) (hpos : 0 < heldN zs len comp a (hi.toNat - a)) :
    Calls Try.prog 24 #[.int .i64 (a : Int), .int .i64 hi, .slice ad len cap, .bool comp, .int .i64 length, .int .i64 prev, .int .i64 (n : Int), .slice (some ⟨g, 0, none⟩) n n] w fun e w' =>
      e = .returned (.tuple #[.int .i64 hi, .bool true]) ∧ Blk w' g 3 (ints (marked zs len comp a (hi.toNat - a) l)) ∧ Only g w w' := by
  have C := mark_any a hi ad len cap zs comp n g l w hlh hn hn2 hlen hasc hats haway hblk hll hb
  clear hasc hats haway hblk hll hb
  subst hlength
  generalize heldN zs len comp a (hi.toNat - a) = h at C hpos ⊢
  generalize marked zs len comp a (hi.toNat - a) l = l2 at C ⊢
  have HC := hide C
  clear C
  have t1 : ((h : Int) == 0) = false := beq_eq_false_iff_ne.2 (by omega)
  have t2 : ((h : Int) != (h : Int)) = false := by simp
  go_enter Try.func24, Try.ntmps24
  go_wp2_with fail
  refine HC.out.mono ?_
  rintro e w' ⟨rfl, hb, ho⟩
  have HB := hide hb
  have HO := hide ho
  clear hb ho HC
  go_wp2
  go_ret2
  exact ⟨rfl, HB.out, HO.out⟩

end Go.Proofs.Qxb6615808a
