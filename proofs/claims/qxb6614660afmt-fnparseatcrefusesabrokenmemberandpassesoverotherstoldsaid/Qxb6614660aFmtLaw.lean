/-
  The walk of the law itself (3).
-/
import Derived.Test.Qxb6614660aFmtLooks
import Derived.Deep.QuietTactic
import Derived.BigQuiet
namespace Go.Proofs.Qxb6614660aFmt
open Go.RowKit Go.Extern.Stop Go.Stop Go.Extern

/-- The two objects lie side by side, both of them new. -/
structure Both (w w' : World) (p q : Nat) (es fs : Array MapEntry) : Prop where
  one : MapIs w' p es 3
  two : MapIs w' q fs 4
  ne : p ≠ q
  p : w.heap.size ≤ p
  q : w.heap.size ≤ q
  bel : Below w.heap.size w w'

theorem Only.both {w a b : World} {p q : Nat} {es fs es' : Array MapEntry} (h : Both w a p q es fs) (ho : Only p a b) (hm : MapIs b p es' 3) : Both w b p q es' fs :=
  ⟨hm, h.two.only ho (Ne.symm h.ne), h.ne, h.p, h.q, h.bel.trans (ho.below h.p)⟩
theorem Only.both2 {w a b : World} {p q : Nat} {es fs fs' : Array MapEntry} (h : Both w a p q es fs) (ho : Only q a b) (hm : MapIs b q fs' 4) : Both w b p q es fs' :=
  ⟨h.one.only ho h.ne, hm, h.ne, h.p, h.q, h.bel.trans (ho.below h.q)⟩

theorem eq33 (v : Addr) (w : World) : (binOp .eql 33 (.iface 44 (.pointer (some v))) .nilIface).run Tryf.prog w = .ok (.bool false) w := by kernel_rfl
theorem ne33 (v : Addr) (w : World) : (binOp .neq 33 (.iface 44 (.pointer (some v))) .nilIface).run Tryf.prog w = .ok (.bool true) w := by kernel_rfl
theorem eqnn (w : World) : (binOp .eql 33 .nilIface .nilIface).run Tryf.prog w = .ok (.bool true) w := by kernel_rfl
theorem eq31 (x y : ByteArray) (w : World) : (binOp .eql 31 (.agg #[.string x, .string y, .bool false]) (.agg #[.string x, .string y, .bool false])).run Tryf.prog w = .ok (.bool true) w := by
  go_simp
theorem below_drewN {B : Nat} {a b : World} (h : Below B a b) (n : Nat) : Below B a (b.drewN n) := ⟨h.os, h.tape, h.output, h.size, h.block⟩
theorem size_alloc (w : World) (o : Obj) : (w.alloc o).heap.size = w.heap.size + 1 := by
  show (w.heap.push _).size = _
  simp
theorem Both.second {w a b : World} {p q : Nat} {es fs : Array MapEntry} (h : Both w a p q es fs) (hb : Below a.heap.size a b) (o : Obj) : MapIs (b.alloc o) q fs 4 ∧ Below w.heap.size w (b.alloc o) := by
  have h1 := h.two.lt
  have h2 := hb.size
  have h3 := h.bel.size
  exact ⟨(h.two.below hb h1).below ((Below.refl _ _).alloc (Nat.le_refl _) o) (by omega), (h.bel.trans (hb.mono (by omega))).alloc (by omega) o⟩
/-- The two structs lie in memory, each in a block of its own, both new. -/
theorem two_blocks {w b c : World} {l m : List Value} (h1 : Below w.heap.size w (b.alloc (.cells l.toArray 31))) (h2 : Below (b.heap.size + 1) (b.alloc (.cells l.toArray 31)) c) :
    Blk (c.alloc (.cells m.toArray 31)) b.heap.size 31 l ∧ Blk (c.alloc (.cells m.toArray 31)) c.heap.size 31 m ∧ Below w.heap.size w (c.alloc (.cells m.toArray 31)) := by
  have e := h1.size
  rw [size_alloc] at e
  have e2 := h2.size
  rw [size_alloc] at e2
  exact ⟨((Blk.new b l 31).below h2 (by omega)).alloc _, Blk.new c m 31, (h1.trans ⟨h2.os, h2.tape, h2.output, h2.size, fun k hk => h2.block k (by have := h1.size; rw [size_alloc] at this; omega)⟩).alloc (by omega) _⟩
theorem Blk.after {w : World} {g : Nat} {e : TypeId} {l : List Value} (h : Blk w g e l) (o : Obj) (i : Nat) : (w.alloc o).cell? ⟨g, i, none⟩ = l[i]? := (h.alloc o).cell i

set_option maxRecDepth 100000 in
set_option maxHeartbeats 1000000 in
theorem law3 (F : Interp) (a b c : ByteArray) (n : Int) (f : Bool) (k v : ByteArray) (w : World) (hF : F.answers w.tape) (ha : a.size ≤ 9223372036854775807) (hb : b.size ≤ 9223372036854775807) (hc : c.size ≤ 9223372036854775807) (hk : k.size ≤ 9223372036854775807) (hv : v.size ≤ 9223372036854775807) :
    Calls Tryf.prog 3 #[.string a, .string b, .string c, .int .i64 n, .bool f, .string k, .string v] w fun e w' => e = .returned (.bool true) ∧ Below w.heap.size w w' := by
  have HF := hide hF
  clear hF
  go_enter Tryf.func3, Tryf.ntmps3
  go_wp2_with fail
  refine (bytes4 a b c n f k v w ha hb hc hk hv).mono ?_
  rintro e w' ⟨⟨ok, rfl⟩, hw⟩
  obtain rfl := hw.symm
  cases ok
  · go_wp2
    go_ret
    exact ⟨rfl, Below.refl _ _⟩
  by_cases h0 : 65536 < a.size
  · go_wp2
    go_ret
    exact ⟨rfl, Below.refl _ _⟩
  by_cases h1 : 65536 < b.size
  · go_wp2
    go_ret
    exact ⟨rfl, Below.refl _ _⟩
  by_cases h2 : 65536 < c.size
  · go_wp2
    go_ret
    exact ⟨rfl, Below.refl _ _⟩
  by_cases h3 : 65536 < k.size
  · go_wp2
    go_ret
    exact ⟨rfl, Below.refl _ _⟩
  by_cases h4 : 65536 < v.size
  · go_wp2
    go_ret
    exact ⟨rfl, Below.refl _ _⟩
  go_wp2_with fail
  refine (mem5 k w).mono ?_
  rintro e w' ⟨hmem, hw⟩
  obtain rfl := hw.symm
  rcases hmem with rfl | ⟨rfl, hno⟩
  · go_wp2
    go_ret
    exact ⟨rfl, Below.refl _ _⟩
  have HN : Hid (NoMember k) := hno
  clear hno
  go_wp2_with fail
  refine (obj6 a b c w).mono ?_
  rintro e w1 ⟨rfl, hm1, hb1, hs1⟩
  have HM1 := hide hm1
  have HB1 := hide hb1
  have HS1 := hide hs1
  clear hm1 hb1 hs1
  go_wp2_with fail
  refine (obj6 a b c w1).mono ?_
  rintro e w2 ⟨rfl, hm2, hb2, hs2⟩
  have HM2 := hide hm2
  have HB2 := hide hb2
  clear hm2 hb2 hs2
  go_wp2_with fail
  refine (set7 HM2.out (look_extra HN.out) v).mono ?_
  rintro e w3 ⟨rfl, hm3, ho3⟩
  have hs1 := HS1.out
  have B3 : Hid (Both w w3 w.heap.size w1.heap.size (base3 a b c) ((base3 a b c).push ⟨.string k, .iface 9 (.string v), 3⟩)) :=
    ⟨(HM1.out.below HB2.out (by omega)).only ho3 (by omega), hm3, by omega, Nat.le_refl _, by omega, (HB1.out.trans (HB2.out.mono (by omega))).trans (ho3.below (by omega))⟩
  obtain ⟨q, hq⟩ : ∃ q, q = w1.heap.size := ⟨_, rfl⟩
  rw [← hq] at B3 ⊢
  have L1 : Hid (Laid a b c (base3 a b c)) := .inl rfl
  have L2 : Hid (Laid a b c ((base3 a b c).push ⟨.string k, .iface 9 (.string v), 3⟩)) := .inr ⟨k, v, HN.out, rfl⟩
  generalize (base3 a b c).push ⟨.string k, .iface 9 (.string v), 3⟩ = fs at B3 L2 
  generalize base3 a b c = es at B3 L1
  clear HM1 HM2 HB1 HB2 hm3 ho3 hs1 HS1 hq
  by_cases g0 : 0 ≤ n
  · by_cases g2 : n ≤ 2
    · go_wp2_with fail
      refine (name8 n w3 g0 g2).mono ?_
      rintro e w' ⟨rfl, hw⟩
      obtain rfl := hw.symm
      cases f
      · go_wp2_with fail
        refine (strike_laid B3.out.one L1.out g0 g2).mono ?_
        rintro e w4 ⟨rfl, ⟨es', hm4, hb4⟩, ho4⟩
        have B4 := hide (Only.both B3.out ho4 hm4)
        have K1 := hide hb4
        clear hm4 hb4 ho4 B3
        go_wp2_with fail
        refine (strike_laid B4.out.two L2.out g0 g2).mono ?_
        rintro e w5 ⟨rfl, ⟨fs', hm5, hb5⟩, ho5⟩
        have B5 := hide (Only.both2 B4.out ho5 hm5)
        have K2 := hide hb5
        clear hm5 hb5 ho5 B4
        go_wp2_with fail
        refine (parse_broken F (by rw [B5.out.bel.tape]; exact HF.out) B5.out.one K1.out).mono ?_
        rintro e w6 ⟨⟨x1, rfl⟩, hb6⟩
        have H6 := hide hb6
        clear hb6
        go_wp2_with fail
        obtain ⟨m7, b7⟩ := B5.out.second H6.out (.cells #[.string ByteArray.empty, .string ByteArray.empty, .bool false] 31)
        refine (parse_broken F (by rw [b7.tape]; exact HF.out) m7 K2.out).mono ?_
        rintro e w8 ⟨⟨x2, rfl⟩, hb8⟩
        rw [size_alloc] at hb8
        have T := hide (two_blocks (l := [.string ByteArray.empty, .string ByteArray.empty, .bool false]) (m := [.string ByteArray.empty, .string ByteArray.empty, .bool false]) b7 hb8)
        clear m7 b7 hb8 H6 K1 K2
        go_wp2
        obtain ⟨w9, hw9⟩ : ∃ x, x = w8.alloc (.cells #[.string ByteArray.empty, .string ByteArray.empty, .bool false] 31) := ⟨_, rfl⟩
        have U : Hid (Blk w9 w6.heap.size 31 [.string ByteArray.empty, .string ByteArray.empty, .bool false] ∧ Blk w9 w8.heap.size 31 [.string ByteArray.empty, .string ByteArray.empty, .bool false] ∧ Below w.heap.size w w9) := by rw [hw9]; exact T.out
        rw [← hw9]
        clear hw9 T
        have c0 := U.out.1.cell 0
        have c1 := U.out.1.cell 1
        have c2 := U.out.1.cell 2
        have d0 := U.out.2.1.cell 0
        have d1 := U.out.2.1.cell 1
        have d2 := U.out.2.1.cell 2
        have qe := eq33
        have qn := ne33
        simp at c0 c1 c2 d0 d1 d2
        go_quiet (fail)
        obtain ⟨w10, h10⟩ : ∃ x, x = w9.drewN nq := ⟨_, rfl⟩
        have V : Hid (Blk w10 w6.heap.size 31 [.string ByteArray.empty, .string ByteArray.empty, .bool false] ∧ Below w.heap.size w w10) := by rw [h10]; exact ⟨U.out.1, below_drewN U.out.2.2 _⟩
        rw [← h10]
        clear h10 U c0 c1 c2 d0 d1 d2
        have e0 := fun o => V.out.1.after o 0
        have e1 := fun o => V.out.1.after o 1
        have e2 := fun o => V.out.1.after o 2
        simp at e0 e1 e2
        go_wp2
        go_ret
        exact ⟨rfl, V.out.2.alloc V.out.2.size _⟩
      · go_wp2_with fail
        refine (turn_laid B3.out.one L1.out g0 g2).mono ?_
        rintro e w4 ⟨rfl, ⟨es', hm4, hb4⟩, ho4⟩
        have B4 := hide (Only.both B3.out ho4 hm4)
        have K1 := hide hb4
        clear hm4 hb4 ho4 B3
        go_wp2_with fail
        refine (turn_laid B4.out.two L2.out g0 g2).mono ?_
        rintro e w5 ⟨rfl, ⟨fs', hm5, hb5⟩, ho5⟩
        have B5 := hide (Only.both2 B4.out ho5 hm5)
        have K2 := hide hb5
        clear hm5 hb5 ho5 B4
        go_wp2_with fail
        refine (parse_broken F (by rw [B5.out.bel.tape]; exact HF.out) B5.out.one K1.out).mono ?_
        rintro e w6 ⟨⟨x1, rfl⟩, hb6⟩
        have H6 := hide hb6
        clear hb6
        go_wp2_with fail
        obtain ⟨m7, b7⟩ := B5.out.second H6.out (.cells #[.string ByteArray.empty, .string ByteArray.empty, .bool false] 31)
        refine (parse_broken F (by rw [b7.tape]; exact HF.out) m7 K2.out).mono ?_
        rintro e w8 ⟨⟨x2, rfl⟩, hb8⟩
        rw [size_alloc] at hb8
        have T := hide (two_blocks (l := [.string ByteArray.empty, .string ByteArray.empty, .bool false]) (m := [.string ByteArray.empty, .string ByteArray.empty, .bool false]) b7 hb8)
        clear m7 b7 hb8 H6 K1 K2
        go_wp2
        obtain ⟨w9, hw9⟩ : ∃ x, x = w8.alloc (.cells #[.string ByteArray.empty, .string ByteArray.empty, .bool false] 31) := ⟨_, rfl⟩
        have U : Hid (Blk w9 w6.heap.size 31 [.string ByteArray.empty, .string ByteArray.empty, .bool false] ∧ Blk w9 w8.heap.size 31 [.string ByteArray.empty, .string ByteArray.empty, .bool false] ∧ Below w.heap.size w w9) := by rw [hw9]; exact T.out
        rw [← hw9]
        clear hw9 T
        have c0 := U.out.1.cell 0
        have c1 := U.out.1.cell 1
        have c2 := U.out.1.cell 2
        have d0 := U.out.2.1.cell 0
        have d1 := U.out.2.1.cell 1
        have d2 := U.out.2.1.cell 2
        have qe := eq33
        have qn := ne33
        simp at c0 c1 c2 d0 d1 d2
        go_quiet (fail)
        obtain ⟨w10, h10⟩ : ∃ x, x = w9.drewN nq := ⟨_, rfl⟩
        have V : Hid (Blk w10 w6.heap.size 31 [.string ByteArray.empty, .string ByteArray.empty, .bool false] ∧ Below w.heap.size w w10) := by rw [h10]; exact ⟨U.out.1, below_drewN U.out.2.2 _⟩
        rw [← h10]
        clear h10 U c0 c1 c2 d0 d1 d2
        have e0 := fun o => V.out.1.after o 0
        have e1 := fun o => V.out.1.after o 1
        have e2 := fun o => V.out.1.after o 2
        simp at e0 e1 e2
        go_wp2
        go_ret
        exact ⟨rfl, V.out.2.alloc V.out.2.size _⟩
    · go_wp2_with fail
      refine (parse_laid B3.out.one L1.out).mono ?_
      rintro e w6 ⟨rfl, hb6⟩
      have H6 := hide hb6
      clear hb6
      go_wp2_with fail
      obtain ⟨m7, b7⟩ := B3.out.second H6.out (.cells #[.string b, .string c, .bool false] 31)
      refine (parse_laid m7 L2.out).mono ?_
      rintro e w8 ⟨rfl, hb8⟩
      rw [size_alloc] at hb8
      have T := hide (two_blocks (l := [.string b, .string c, .bool false]) (m := [.string b, .string c, .bool false]) b7 hb8)
      clear m7 b7 hb8 H6
      go_wp2
      obtain ⟨w9, hw9⟩ : ∃ x, x = w8.alloc (.cells #[.string b, .string c, .bool false] 31) := ⟨_, rfl⟩
      have U : Hid (Blk w9 w6.heap.size 31 [.string b, .string c, .bool false] ∧ Blk w9 w8.heap.size 31 [.string b, .string c, .bool false] ∧ Below w.heap.size w w9) := by rw [hw9]; exact T.out
      rw [← hw9]
      clear hw9 T
      have c0 := U.out.1.cell 0
      have c1 := U.out.1.cell 1
      have c2 := U.out.1.cell 2
      have d0 := U.out.2.1.cell 0
      have d1 := U.out.2.1.cell 1
      have d2 := U.out.2.1.cell 2
      have qe := eqnn
      simp at c0 c1 c2 d0 d1 d2
      go_quiet (fail)
      obtain ⟨w10, h10⟩ : ∃ x, x = w9.drewN nq := ⟨_, rfl⟩
      have V : Hid (Blk w10 w6.heap.size 31 [.string b, .string c, .bool false] ∧ Below w.heap.size w w10) := by rw [h10]; exact ⟨U.out.1, below_drewN U.out.2.2 _⟩
      rw [← h10]
      clear h10 U c0 c1 c2 d0 d1 d2
      have e0 := fun o o' => (V.out.1.alloc o).after o' 0
      have e1 := fun o o' => (V.out.1.alloc o).after o' 1
      have e2 := fun o o' => (V.out.1.alloc o).after o' 2
      simp at e0 e1 e2
      go_wp2
      go_ret
      exact ⟨rfl, (V.out.2.alloc V.out.2.size _).alloc (by rw [size_alloc]; have := V.out.2.size; omega) _⟩
  · go_wp2_with fail
    refine (parse_laid B3.out.one L1.out).mono ?_
    rintro e w6 ⟨rfl, hb6⟩
    have H6 := hide hb6
    clear hb6
    go_wp2_with fail
    obtain ⟨m7, b7⟩ := B3.out.second H6.out (.cells #[.string b, .string c, .bool false] 31)
    refine (parse_laid m7 L2.out).mono ?_
    rintro e w8 ⟨rfl, hb8⟩
    rw [size_alloc] at hb8
    have T := hide (two_blocks (l := [.string b, .string c, .bool false]) (m := [.string b, .string c, .bool false]) b7 hb8)
    clear m7 b7 hb8 H6
    go_wp2
    obtain ⟨w9, hw9⟩ : ∃ x, x = w8.alloc (.cells #[.string b, .string c, .bool false] 31) := ⟨_, rfl⟩
    have U : Hid (Blk w9 w6.heap.size 31 [.string b, .string c, .bool false] ∧ Blk w9 w8.heap.size 31 [.string b, .string c, .bool false] ∧ Below w.heap.size w w9) := by rw [hw9]; exact T.out
    rw [← hw9]
    clear hw9 T
    have c0 := U.out.1.cell 0
    have c1 := U.out.1.cell 1
    have c2 := U.out.1.cell 2
    have d0 := U.out.2.1.cell 0
    have d1 := U.out.2.1.cell 1
    have d2 := U.out.2.1.cell 2
    have qe := eqnn
    simp at c0 c1 c2 d0 d1 d2
    go_quiet (fail)
    obtain ⟨w10, h10⟩ : ∃ x, x = w9.drewN nq := ⟨_, rfl⟩
    have V : Hid (Blk w10 w6.heap.size 31 [.string b, .string c, .bool false] ∧ Below w.heap.size w w10) := by rw [h10]; exact ⟨U.out.1, below_drewN U.out.2.2 _⟩
    rw [← h10]
    clear h10 U c0 c1 c2 d0 d1 d2
    have e0 := fun o o' => (V.out.1.alloc o).after o' 0
    have e1 := fun o o' => (V.out.1.alloc o).after o' 1
    have e2 := fun o o' => (V.out.1.alloc o).after o' 2
    simp at e0 e1 e2
    go_wp2
    go_ret
    exact ⟨rfl, (V.out.2.alloc V.out.2.size _).alloc (by rw [size_alloc]; have := V.out.2.size; omega) _⟩

end Go.Proofs.Qxb6614660aFmt
