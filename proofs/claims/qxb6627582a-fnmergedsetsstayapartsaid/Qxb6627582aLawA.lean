import Derived.Test.Qxb6627582aTwo
namespace Go.Proofs.Qxb6627582a
open Go.RowKit Go.Sort

set_option maxRecDepth 100000 in
set_option maxHeartbeats 4000000 in
theorem law3 (ao bo co dd : Option Addr) (ac bc cc dc : Nat) (xa xb xc xd : List Dg) (w : World) (ha : DRow w ao xa) (hb : DRow w bo xb) (hc : DRow w co xc) (hd : DRow w dd xd) :
    Calls Try.prog 3 #[.slice ao xa.length ac, .slice bo xb.length bc, .slice co xc.length cc, .slice dd xd.length dc] w fun e w' => e = .returned (.bool true) ∧ Below w.heap.size w w' := by
  have QA : Hid (Arg w.heap.size w ao xa) := Arg.of_row ha
  have QB : Hid (Arg w.heap.size w bo xb) := Arg.of_row hb
  have QC : Hid (Arg w.heap.size w co xc) := Arg.of_row hc
  have QD : Hid (Arg w.heap.size w dd xd) := Arg.of_row hd
  clear ha hb hc hd
  go_enter Try.func3, Try.ntmps3
  go_wp2_with fail
  refine (f5 ao ac xa bo bc xb co cc xc dd dc xd w QA.out.row QB.out.row QC.out.row QD.out.row).mono ?_
  rintro e w1 ⟨⟨r, rfl⟩, hw⟩
  obtain rfl : w = w1 := hw.symm
  clear hw
  cases r
  · go_wp2
    go_ret
    exact ⟨rfl, Below.refl _ _⟩
  by_cases la : xa.length ≤ 4096
  case neg =>
    have i : (4096 : Int) < (xa.length : Int) := by omega
    go_wp2
    go_ret
    exact ⟨rfl, Below.refl _ _⟩
  have da : decide ((4096 : Int) < (xa.length : Int)) = false := by simp; omega
  by_cases lb : xb.length ≤ 4096
  case neg =>
    have i : (4096 : Int) < (xb.length : Int) := by omega
    go_wp2
    go_ret
    exact ⟨rfl, Below.refl _ _⟩
  have db : decide ((4096 : Int) < (xb.length : Int)) = false := by simp; omega
  by_cases lc : xc.length ≤ 4096
  case neg =>
    have i : (4096 : Int) < (xc.length : Int) := by omega
    go_wp2
    go_ret
    exact ⟨rfl, Below.refl _ _⟩
  have d3 : decide ((4096 : Int) < (xc.length : Int)) = false := by simp; omega
  by_cases ld : xd.length ≤ 4096
  case neg =>
    have i : (4096 : Int) < (xd.length : Int) := by omega
    go_wp2
    go_ret
    exact ⟨rfl, Below.refl _ _⟩
  have d4 : decide ((4096 : Int) < (xd.length : Int)) = false := by simp; omega
  go_wp2_with fail
  refine (f6 ao ac xa 0 w QA.out.row la).mono ?_
  rintro e w1 ⟨⟨r1, rfl⟩, hw⟩
  obtain rfl : w = w1 := hw.symm
  clear hw da db d3 d4
  go_wp2_with fail
  refine (f6 bo bc xb r1 w QB.out.row lb).mono ?_
  rintro e w1 ⟨⟨r2, rfl⟩, hw⟩
  obtain rfl : w = w1 := hw.symm
  clear hw
  go_wp2_with fail
  refine (f6 co cc xc r2 w QC.out.row lc).mono ?_
  rintro e w1 ⟨⟨r3, rfl⟩, hw⟩
  obtain rfl : w = w1 := hw.symm
  clear hw
  go_wp2_with fail
  refine (f6 dd dc xd r3 w QD.out.row ld).mono ?_
  rintro e w1 ⟨⟨r4, rfl⟩, hw⟩
  obtain rfl : w = w1 := hw.symm
  clear hw
  by_cases ls : (1048576 : Int) < r4
  · go_wp2
    go_ret
    exact ⟨rfl, Below.refl _ _⟩
  have ds : decide ((1048576 : Int) < r4) = false := by simp; omega
  -- what is wanted
  go_wp2_with fail
  refine (f8 ao bo ac bc xa xb w QA.out.row QB.out.row (by omega) (by omega)).mono ?_
  rintro e w1 ⟨g1, k1, rfl, o1, b1⟩
  obtain ⟨x1, hx1⟩ : ∃ x1, x1 = xa ++ xb := ⟨_, rfl⟩
  rw [← hx1] at o1 ⊢
  have X1 : Hid (x1 = xa ++ xb) := hx1
  have l1 : x1.length ≤ 8192 := by rw [hx1, List.length_append]; omega
  have O1 : Hid (DRow w1 (some ⟨g1, 0, none⟩) x1) := own_drow o1
  have BW1 : Hid (Below w.heap.size w w1) := b1
  clear hx1 o1 b1 ds
  go_wp2_with fail
  refine (f8 (some ⟨g1, 0, none⟩) dd k1 dc x1 xd w1 O1.out (QD.out.below BW1.out).row (by omega) (by omega)).mono ?_
  rintro e w2 ⟨g2, k2, rfl, o2, b2⟩
  obtain ⟨x2, hx2⟩ : ∃ x2, x2 = x1 ++ xd := ⟨_, rfl⟩
  rw [← hx2] at o2 ⊢
  have X2 : Hid (x2 = x1 ++ xd) := hx2
  have l2 : x2.length ≤ 12288 := by rw [hx2, List.length_append]; omega
  have O2 : Hid (DRow w2 (some ⟨g2, 0, none⟩) x2) := own_drow o2
  have BW2 : Hid (Below w.heap.size w w2) := BW1.out.trans (b2.mono BW1.out.size)
  clear hx2 o2 b2 O1 BW1
  go_wp2_with fail
  refine (f7 (some ⟨g2, 0, none⟩) k2 x2.length x2 w2 O2.out rfl (by omega)).mono ?_
  rintro e w3 ⟨g3, k3, u1, rfl, o3, st3, m3, l3, b3⟩
  have U1 : Hid (OwnD w2.heap.size w3 g3 k3 u1) := o3
  have ST1 : Hid (StrD u1) := st3
  have MB1 : Hid (∀ d, d ∈ u1 ↔ d ∈ xa ∨ d ∈ xb ∨ d ∈ xd) := fun d => by rw [m3, X2.out, X1.out, List.mem_append, List.mem_append, or_assoc]
  have BW3 : Hid (Below w.heap.size w w3) := BW2.out.trans (b3.mono BW2.out.size)
  clear o3 st3 m3 b3 O2 BW2 X1 X2
  have hu1 : u1.length ≤ 65536 := by omega
  clear l3 l2 l1
  go_wp2_with fail
  refine (f7 co cc xc.length xc w3 (QC.out.below BW3.out).row rfl (by omega)).mono ?_
  rintro e w4 ⟨g4, k4, u2, rfl, o4, st4, m4, l4, b4⟩
  have U1b : Hid (OwnD w2.heap.size w4 g3 k3 u1 ∧ g3 < w4.heap.size) := ⟨U1.out.below b4 (own_lt U1.out).2, Nat.lt_of_lt_of_le (own_lt U1.out).2 b4.size⟩
  have U2 : Hid (OwnD w3.heap.size w4 g4 k4 u2) := o4
  have ST2 : Hid (StrD u2) := st4
  have MB2 : Hid (∀ d, d ∈ u2 ↔ d ∈ xc) := m4
  have BW4 : Hid (Below w.heap.size w w4) := BW3.out.trans (b4.mono BW3.out.size)
  have hu2 : u2.length ≤ 65536 := by omega
  clear o4 st4 m4 b4 BW3 U1 l4
  -- the first set
  go_wp2_with fail
  refine (f9 0 0 w4).mono ?_
  rintro e w5 ⟨rfl, hw5⟩
  have O5 : Hid (One w4.heap.size w5 w4.heap.size (emptySC 0 0) 0) := by rw [hw5]; exact One.new w4 0 0
  have B5 : Hid (Below w4.heap.size w4 w5) := by rw [hw5]; exact (Below.refl _ _).alloc (Nat.le_refl _) _
  clear hw5
  have BW : Hid (∀ wk, Below w4.heap.size w5 wk → Below w.heap.size w wk) := fun wk b => BW4.out.trans ((B5.out.trans b).mono BW4.out.size)
  have AA : Hid (∀ wk, Below w4.heap.size w5 wk → Arg w4.heap.size wk ao xa) := fun wk b => ((QA.out.below BW4.out).mono BW4.out.size).below (B5.out.trans b)
  have AB : Hid (∀ wk, Below w4.heap.size w5 wk → Arg w4.heap.size wk bo xb) := fun wk b => ((QB.out.below BW4.out).mono BW4.out.size).below (B5.out.trans b)
  have AC : Hid (∀ wk, Below w4.heap.size w5 wk → Arg w4.heap.size wk co xc) := fun wk b => ((QC.out.below BW4.out).mono BW4.out.size).below (B5.out.trans b)
  have AD : Hid (∀ wk, Below w4.heap.size w5 wk → Arg w4.heap.size wk dd xd) := fun wk b => ((QD.out.below BW4.out).mono BW4.out.size).below (B5.out.trans b)
  have A1 : Hid (∀ wk, Below w4.heap.size w5 wk → Arg w4.heap.size wk (some ⟨g3, 0, none⟩) u1) := fun wk b => (Arg.own U1b.out.1 U1b.out.2).below (B5.out.trans b)
  have A2 : Hid (∀ wk, Below w4.heap.size w5 wk → Arg w4.heap.size wk (some ⟨g4, 0, none⟩) u2) := fun wk b => (Arg.own U2.out (own_lt U2.out).2).below (B5.out.trans b)
  clear QA QB QC QD BW4 U1b U2 B5
  generalize w4.heap.size = sb at *
  go_wp2_with fail
  refine (f10one O5.out ao ac xa (AA.out _ (Below.refl _ _)) la (by omega)).mono ?_
  rintro e w6 ⟨rfl, c6, o6, m6, e6, f6, b6⟩
  have O6 : Hid (One sb w6 sb c6 (0 + 2 * xa.length)) := o6
  have M6 : Hid (∀ x, c6.mem x ↔ x ∈ xa) := fun x => by rw [m6]; simp [empty_mem]
  have E6 : Hid (c6.de = 0 ∧ c6.dw = 0) := ⟨e6, f6⟩
  have B6 : Hid (Below sb w5 w6) := b6
  clear o6 m6 e6 f6 b6 O5 AA
  -- the second set
  go_wp2_with fail
  refine (f9 0 0 w6).mono ?_
  rintro e w7 ⟨rfl, hw7⟩
  have T7 : Hid (Pair sb w7 sb c6 (0 + 2 * xa.length) w6.heap.size (emptySC 0 0) 0) := by rw [hw7]; exact (Pair.new O6.out 0 0).1
  have B7 : Hid (Below sb w5 w7) := by rw [hw7]; exact B6.out.trans (Pair.new O6.out 0 0).2
  clear hw7 O6 B6
  generalize w6.heap.size = ob at *
  go_wp2_with fail
  refine (f10right T7.out bo bc xb (AB.out _ B7.out) lb (by omega)).mono ?_
  rintro e w8 ⟨rfl, c8, o8, m8, e8, f8, b8⟩
  have T8 : Hid (Pair sb w8 sb c6 (0 + 2 * xa.length) ob c8 (0 + 2 * xb.length)) := o8
  have M8 : Hid (∀ x, c8.mem x ↔ x ∈ xb) := fun x => by rw [m8]; simp [empty_mem]
  have E8 : Hid (c8.de = 0 ∧ c8.dw = 0) := ⟨e8, f8⟩
  have B8 : Hid (Below sb w5 w8) := B7.out.trans b8
  clear o8 m8 e8 f8 b8 T7 B7 AB
  -- the merge
  go_wp2_with fail
  refine (f11two T8.out (by omega) (by rw [E6.out.1]; decide) (by rw [E6.out.2]; decide) (by rw [E8.out.1]; decide) (by rw [E8.out.2]; decide)).mono ?_
  rintro e w9 ⟨rfl, c9, o9, m9, _, _, b9⟩
  have T9 : Hid (Pair sb w9 sb c9 (0 + 2 * xa.length + 2 * (0 + 2 * xb.length)) ob (emptySC 0 0) 0) := o9
  have M9 : Hid (∀ x, c9.mem x ↔ x ∈ xa ∨ x ∈ xb) := fun x => by rw [m9, M6.out, M8.out]
  have B9 : Hid (Below sb w5 w9) := B8.out.trans b9
  clear o9 m9 b9 T8 B8 M6 M8 E6 E8
  go_wp2_with fail
  refine (f10right T9.out co cc xc (AC.out _ B9.out) lc (by omega)).mono ?_
  rintro e w10 ⟨rfl, c10, o10, m10, _, _, b10⟩
  have T10 : Hid (Pair sb w10 sb c9 (0 + 2 * xa.length + 2 * (0 + 2 * xb.length)) ob c10 (0 + 2 * xc.length)) := o10
  have M10 : Hid (∀ x, c10.mem x ↔ x ∈ xc) := fun x => by rw [m10]; simp [empty_mem]
  have B10 : Hid (Below sb w5 w10) := B9.out.trans b10
  clear o10 m10 b10 T9 B9 AC
  go_wp2_with fail
  refine (f10left T10.out dd dc xd (AD.out _ B10.out) ld (by omega)).mono ?_
  rintro e w11 ⟨rfl, c11, o11, m11, _, _, b11⟩
  have T11 : Hid (Pair sb w11 sb c11 (0 + 2 * xa.length + 2 * (0 + 2 * xb.length) + 2 * xd.length) ob c10 (0 + 2 * xc.length)) := o11
  have M11 : Hid (∀ x, c11.mem x ↔ x ∈ xa ∨ x ∈ xb ∨ x ∈ xd) := fun x => by rw [m11, M9.out, or_assoc]
  have B11 : Hid (Below sb w5 w11) := B10.out.trans b11
  clear o11 m11 b11 T10 B10 M9 AD
  have q1 := T11.out.s.i.esK
  have q2 := T11.out.o.i.esK
  -- the first is read
  go_wp2_with fail
  refine (f12 sb _ c11 w11 T11.out.s (by omega)).mono ?_
  rintro e w12 ⟨g12, k12, rfl, o12, b12⟩
  have O12 : Hid (DRow w12 (some ⟨g12, 0, none⟩) (rd c11)) := own_drow o12
  have T12 : Hid (Pair sb w12 sb c11 _ ob c10 _) := T11.out.below b12
  have B12 : Hid (Below sb w5 w12) := B11.out.trans (b12.mono T11.out.B)
  clear o12 b12 T11 B11
  go_wp2_with fail
  refine (f7 (some ⟨g12, 0, none⟩) k12 c11.es.length (rd c11) w12 O12.out (rd_len c11) (by omega)).mono ?_
  rintro e w13 ⟨g13, k13, u3, rfl, o13, st13, m13, l13, b13⟩
  have T13 : Hid (Pair sb w13 sb c11 _ ob c10 _) := T12.out.below b13
  have B13 : Hid (Below sb w5 w13) := B12.out.trans (b13.mono T12.out.B)
  have U3 : Hid (OwnD w12.heap.size w13 g13 k13 u3) := o13
  obtain rfl : u1 = u3 := strict_ext u1 u3 ST1.out st13 fun d => by rw [MB1.out, m13, rd_mem T12.out.s.i.esb, M11.out]
  clear o13 st13 m13 l13 b13 T12 B12 O12 ST1 MB1 M11
  -- the second is read
  go_wp2_with fail
  refine (f12 ob _ c10 w13 T13.out.o (by omega)).mono ?_
  rintro e w14 ⟨g14, k14, rfl, o14, b14⟩
  have O14 : Hid (DRow w14 (some ⟨g14, 0, none⟩) (rd c10)) := own_drow o14
  have T14 : Hid (Pair sb w14 sb c11 _ ob c10 _) := T13.out.below b14
  have B14 : Hid (Below sb w5 w14) := B13.out.trans (b14.mono T13.out.B)
  have U3b : Hid (OwnD w12.heap.size w14 g13 k13 u1) := U3.out.below b14 (own_lt U3.out).2
  clear o14 b14 T13 B13 U3
  go_wp2_with fail
  refine (f7 (some ⟨g14, 0, none⟩) k14 c10.es.length (rd c10) w14 O14.out (rd_len c10) (by omega)).mono ?_
  rintro e w15 ⟨g15, k15, u4, rfl, o15, st15, m15, l15, b15⟩
  have B15 : Hid (Below sb w5 w15) := B14.out.trans (b15.mono T14.out.B)
  have U3c : Hid (OwnD w12.heap.size w15 g13 k13 u1) := U3b.out.below b15 (own_lt U3b.out).2
  have U4 : Hid (OwnD w14.heap.size w15 g15 k15 u4) := o15
  have hB15 : Hid (sb ≤ w15.heap.size) := Nat.le_trans T14.out.B b15.size
  obtain rfl : u2 = u4 := strict_ext u2 u4 ST2.out st15 fun d => by rw [MB2.out, m15, rd_mem T14.out.o.i.esb, M10.out]
  clear o15 st15 m15 l15 b15 T14 B14 O14 ST2 MB2 M10 U3b q1 q2
  -- they are compared
  go_wp2_with fail
  refine (f13 (some ⟨g13, 0, none⟩) (some ⟨g3, 0, none⟩) k13 k3 u1 w15 (own_drow U3c.out) (A1.out _ B15.out).row hu1).mono ?_
  rintro e w16 ⟨rfl, b16⟩
  have B16 : Hid (Below sb w5 w16) := B15.out.trans (b16.mono hB15.out)
  have U4b : Hid (OwnD w14.heap.size w16 g15 k15 u2) := U4.out.below b16 (own_lt U4.out).2
  have hB16 : Hid (sb ≤ w16.heap.size) := Nat.le_trans hB15.out b16.size
  clear b16 B15 U4 U3c A1 hB15
  go_wp2_with fail
  refine (f13 (some ⟨g15, 0, none⟩) (some ⟨g4, 0, none⟩) k15 k4 u2 w16 (own_drow U4b.out) (A2.out _ B16.out).row hu2).mono ?_
  rintro e w17 ⟨rfl, b17⟩
  have R : Hid (Below w.heap.size w w17) := BW.out _ (B16.out.trans (b17.mono hB16.out))
  clear b17 B16 U4b A2 hB16 BW
  go_wp2
  go_ret
  exact ⟨rfl, R.out⟩

end Go.Proofs.Qxb6627582a
