import Derived.Test.Qxb6627582aTwo
namespace Go.Proofs.Qxb6627582a
open Go.RowKit Go.Sort

set_option maxRecDepth 100000 in
set_option maxHeartbeats 4000000 in
theorem law4 (ao bo : Option Addr) (ac bc : Nat) (xa xb : List Dg) (n1 n2 n3 n4 : Int) (w : World) (ha : DRow w ao xa) (hb : DRow w bo xb) :
    Calls Try.prog 4 #[.slice ao xa.length ac, .slice bo xb.length bc, .int .i64 n1, .int .i64 n2, .int .i64 n3, .int .i64 n4] w fun e w' => e = .returned (.bool true) ∧ Below w.heap.size w w' := by
  have QA : Hid (Arg w.heap.size w ao xa) := Arg.of_row ha
  have QB : Hid (Arg w.heap.size w bo xb) := Arg.of_row hb
  clear ha hb
  go_enter Try.func4, Try.ntmps4
  go_wp2_with fail
  refine (f14 ao ac xa bo bc xb n1 n2 n3 n4 w QA.out.row QB.out.row).mono ?_
  rintro e w1 ⟨⟨r, rfl⟩, hw⟩
  obtain rfl : w = w1 := hw.symm
  clear hw
  cases r
  · go_wp2
    go_ret
    exact ⟨rfl, Below.refl _ _⟩
  by_cases la : xa.length ≤ 4096
  case neg =>
    have i : (4096 : Int) < (xa.length : Int) := by omega
    go_wp2
    go_ret
    exact ⟨rfl, Below.refl _ _⟩
  have da : decide ((4096 : Int) < (xa.length : Int)) = false := by simp; omega
  by_cases lb : xb.length ≤ 4096
  case neg =>
    have i : (4096 : Int) < (xb.length : Int) := by omega
    go_wp2
    go_ret
    exact ⟨rfl, Below.refl _ _⟩
  have db : decide ((4096 : Int) < (xb.length : Int)) = false := by simp; omega
  go_wp2_with fail
  refine (f6 ao ac xa 0 w QA.out.row la).mono ?_
  rintro e w1 ⟨⟨r1, rfl⟩, hw⟩
  obtain rfl : w = w1 := hw.symm
  clear hw da db
  go_wp2_with fail
  refine (f6 bo bc xb r1 w QB.out.row lb).mono ?_
  rintro e w1 ⟨⟨r2, rfl⟩, hw⟩
  obtain rfl : w = w1 := hw.symm
  clear hw
  by_cases ls : (1048576 : Int) < r2
  · go_wp2
    go_ret
    exact ⟨rfl, Below.refl _ _⟩
  have ds : decide ((1048576 : Int) < r2) = false := by simp; omega
  by_cases p1 : n1 < 0
  · go_wp2
    go_ret
    exact ⟨rfl, Below.refl _ _⟩
  have dp1 : decide (n1 < 0) = false := by simp; omega
  by_cases q1 : (1073741824 : Int) < n1
  · go_wp2
    go_ret
    exact ⟨rfl, Below.refl _ _⟩
  have dq1 : decide ((1073741824 : Int) < n1) = false := by simp; omega
  by_cases p2 : n2 < 0
  · go_wp2
    go_ret
    exact ⟨rfl, Below.refl _ _⟩
  have dp2 : decide (n2 < 0) = false := by simp; omega
  by_cases q2 : (1073741824 : Int) < n2
  · go_wp2
    go_ret
    exact ⟨rfl, Below.refl _ _⟩
  have dq2 : decide ((1073741824 : Int) < n2) = false := by simp; omega
  by_cases p3 : n3 < 0
  · go_wp2
    go_ret
    exact ⟨rfl, Below.refl _ _⟩
  have dp3 : decide (n3 < 0) = false := by simp; omega
  by_cases q3 : (1073741824 : Int) < n3
  · go_wp2
    go_ret
    exact ⟨rfl, Below.refl _ _⟩
  have dq3 : decide ((1073741824 : Int) < n3) = false := by simp; omega
  by_cases p4 : n4 < 0
  · go_wp2
    go_ret
    exact ⟨rfl, Below.refl _ _⟩
  have dp4 : decide (n4 < 0) = false := by simp; omega
  by_cases q4 : (1073741824 : Int) < n4
  · go_wp2
    go_ret
    exact ⟨rfl, Below.refl _ _⟩
  have dq4 : decide ((1073741824 : Int) < n4) = false := by simp; omega
  have h1 : 0 ≤ n1 ∧ n1 ≤ 1073741824 := by omega
  have h2 : 0 ≤ n2 ∧ n2 ≤ 1073741824 := by omega
  have h3 : 0 ≤ n3 ∧ n3 ≤ 1073741824 := by omega
  have h4 : 0 ≤ n4 ∧ n4 ≤ 1073741824 := by omega
  have N1 : Hid (0 ≤ n1 ∧ n1 ≤ 1073741824) := h1
  have N2 : Hid (0 ≤ n2 ∧ n2 ≤ 1073741824) := h2
  have N3 : Hid (0 ≤ n3 ∧ n3 ≤ 1073741824) := h3
  have N4 : Hid (0 ≤ n4 ∧ n4 ≤ 1073741824) := h4
  have v1 : IntKind.i64.wrap (n1 + n3) = n1 + n3 := by simp [IntKind.wrap, IntKind.bits, IntKind.signed]; omega
  have v2 : IntKind.i64.wrap (n2 + n4) = n2 + n4 := by simp [IntKind.wrap, IntKind.bits, IntKind.signed]; omega
  have VV : Hid (IntKind.i64.wrap (n1 + n3) = n1 + n3 ∧ IntKind.i64.wrap (n2 + n4) = n2 + n4) := ⟨v1, v2⟩
  clear h1 h2 h3 h4 v1 v2
  -- what is wanted
  go_wp2_with fail
  refine (f8 ao bo ac bc xa xb w QA.out.row QB.out.row (by omega) (by omega)).mono ?_
  rintro e w1 ⟨g1, k1, rfl, o1, b1⟩
  obtain ⟨x1, hx1⟩ : ∃ x1, x1 = xa ++ xb := ⟨_, rfl⟩
  rw [← hx1] at o1 ⊢
  have X1 : Hid (x1 = xa ++ xb) := hx1
  have l1 : x1.length ≤ 8192 := by rw [hx1, List.length_append]; omega
  have O1 : Hid (DRow w1 (some ⟨g1, 0, none⟩) x1) := own_drow o1
  have BW1 : Hid (Below w.heap.size w w1) := b1
  clear hx1 o1 b1 ds ls p1 p2 p3 p4 q1 q2 q3 q4 dp1 dp2 dp3 dp4 dq1 dq2 dq3 dq4
  go_wp2_with fail
  refine (f7 (some ⟨g1, 0, none⟩) k1 x1.length x1 w1 O1.out rfl (by omega)).mono ?_
  rintro e w4 ⟨g3, k3, u1, rfl, o3, st3, m3, l3, b3⟩
  have U1 : Hid (OwnD w1.heap.size w4 g3 k3 u1) := o3
  have ST1 : Hid (StrD u1) := st3
  have MB1 : Hid (∀ d, d ∈ u1 ↔ d ∈ xa ∨ d ∈ xb) := fun d => by rw [m3, X1.out, List.mem_append]
  have BW4 : Hid (Below w.heap.size w w4) := BW1.out.trans (b3.mono BW1.out.size)
  have hu1 : u1.length ≤ 65536 := by omega
  clear o3 st3 m3 b3 O1 BW1 X1 l3 l1
  -- the first set
  go_wp2_with fail
  refine (f9 n1 n2 w4).mono ?_
  rintro e w5 ⟨rfl, hw5⟩
  have O5 : Hid (One w4.heap.size w5 w4.heap.size (emptySC n1 n2) 0) := by rw [hw5]; exact One.new w4 n1 n2
  have B5 : Hid (Below w4.heap.size w4 w5) := by rw [hw5]; exact (Below.refl _ _).alloc (Nat.le_refl _) _
  clear hw5
  have BW : Hid (∀ wk, Below w4.heap.size w5 wk → Below w.heap.size w wk) := fun wk b => BW4.out.trans ((B5.out.trans b).mono BW4.out.size)
  have AA : Hid (∀ wk, Below w4.heap.size w5 wk → Arg w4.heap.size wk ao xa) := fun wk b => ((QA.out.below BW4.out).mono BW4.out.size).below (B5.out.trans b)
  have AB : Hid (∀ wk, Below w4.heap.size w5 wk → Arg w4.heap.size wk bo xb) := fun wk b => ((QB.out.below BW4.out).mono BW4.out.size).below (B5.out.trans b)
  have A1 : Hid (∀ wk, Below w4.heap.size w5 wk → Arg w4.heap.size wk (some ⟨g3, 0, none⟩) u1) := fun wk b => (Arg.own U1.out (own_lt U1.out).2).below (B5.out.trans b)
  clear QA QB BW4 U1 B5
  generalize w4.heap.size = sb at *
  go_wp2_with fail
  refine (f10one O5.out ao ac xa (AA.out _ (Below.refl _ _)) la (by omega)).mono ?_
  rintro e w6 ⟨rfl, c6, o6, m6, e6, f6, b6⟩
  have O6 : Hid (One sb w6 sb c6 (0 + 2 * xa.length)) := o6
  have M6 : Hid (∀ x, c6.mem x ↔ x ∈ xa) := fun x => by rw [m6]; simp [empty_mem]
  have E6 : Hid (c6.de = n1 ∧ c6.dw = n2) := ⟨e6, f6⟩
  have B6 : Hid (Below sb w5 w6) := b6
  clear o6 m6 e6 f6 b6 O5 AA
  -- the second set
  go_wp2_with fail
  refine (f9 n3 n4 w6).mono ?_
  rintro e w7 ⟨rfl, hw7⟩
  have T7 : Hid (Pair sb w7 sb c6 (0 + 2 * xa.length) w6.heap.size (emptySC n3 n4) 0) := by rw [hw7]; exact (Pair.new O6.out n3 n4).1
  have B7 : Hid (Below sb w5 w7) := by rw [hw7]; exact B6.out.trans (Pair.new O6.out n3 n4).2
  clear hw7 O6 B6
  generalize w6.heap.size = ob at *
  go_wp2_with fail
  refine (f10right T7.out bo bc xb (AB.out _ B7.out) lb (by omega)).mono ?_
  rintro e w8 ⟨rfl, c8, o8, m8, e8, f8, b8⟩
  have T8 : Hid (Pair sb w8 sb c6 (0 + 2 * xa.length) ob c8 (0 + 2 * xb.length)) := o8
  have M8 : Hid (∀ x, c8.mem x ↔ x ∈ xb) := fun x => by rw [m8]; simp [empty_mem]
  have E8 : Hid (c8.de = n3 ∧ c8.dw = n4) := ⟨e8, f8⟩
  have B8 : Hid (Below sb w5 w8) := B7.out.trans b8
  clear o8 m8 e8 f8 b8 T7 B7 AB
  -- the merge
  go_wp2_with fail
  refine (f11two T8.out (by omega) (by rw [E6.out.1]; exact N1.out) (by rw [E6.out.2]; exact N2.out) (by rw [E8.out.1]; exact N3.out) (by rw [E8.out.2]; exact N4.out)).mono ?_
  rintro e w11 ⟨rfl, c11, o9, m9, e9, f9, b9⟩
  have T11 : Hid (Pair sb w11 sb c11 (0 + 2 * xa.length + 2 * (0 + 2 * xb.length)) ob (emptySC 0 0) 0) := o9
  have M11 : Hid (∀ x, c11.mem x ↔ x ∈ xa ∨ x ∈ xb) := fun x => by rw [m9, M6.out, M8.out]
  have E11 : Hid (c11.de = n1 + n3 ∧ c11.dw = n2 + n4) := ⟨by rw [e9, E6.out.1, E8.out.1], by rw [f9, E6.out.2, E8.out.2]⟩
  have B11 : Hid (Below sb w5 w11) := B8.out.trans b9
  clear o9 m9 e9 f9 b9 T8 B8 M6 M8 E6 E8
  have q1 := T11.out.s.i.esK
  -- the first is read
  go_wp2_with fail
  refine (f12 sb _ c11 w11 T11.out.s (by omega)).mono ?_
  rintro e w12 ⟨g12, k12, rfl, o12, b12⟩
  have O12 : Hid (DRow w12 (some ⟨g12, 0, none⟩) (rd c11)) := own_drow o12
  have T12 : Hid (Pair sb w12 sb c11 _ ob (emptySC 0 0) _) := T11.out.below b12
  have B12 : Hid (Below sb w5 w12) := B11.out.trans (b12.mono T11.out.B)
  clear o12 b12 T11 B11
  go_wp2_with fail
  refine (f7 (some ⟨g12, 0, none⟩) k12 c11.es.length (rd c11) w12 O12.out (rd_len c11) (by omega)).mono ?_
  rintro e w13 ⟨g13, k13, u3, rfl, o13, st13, m13, l13, b13⟩
  have T13 : Hid (Pair sb w13 sb c11 _ ob (emptySC 0 0) _) := T12.out.below b13
  have B13 : Hid (Below sb w5 w13) := B12.out.trans (b13.mono T12.out.B)
  have U3 : Hid (OwnD w12.heap.size w13 g13 k13 u3) := o13
  obtain rfl : u1 = u3 := strict_ext u1 u3 ST1.out st13 fun d => by rw [MB1.out, m13, rd_mem T12.out.s.i.esb, M11.out]
  clear o13 st13 m13 l13 b13 T12 B12 O12 ST1 MB1 M11 q1
  -- the counts
  go_wp2_with fail
  refine (f15 sb _ c11 w13 T13.out.s).mono ?_
  rintro e w14 ⟨rfl, q, hw14⟩
  have b14 : Below w13.heap.size w13 w14 := by rw [hw14]; exact below_drewN (Below.refl _ _) _
  have T14 : Hid (Pair sb w14 sb c11 _ ob (emptySC 0 0) _) := T13.out.below b14
  have B14 : Hid (Below sb w5 w14) := B13.out.trans (b14.mono T13.out.B)
  have U3b : Hid (OwnD w12.heap.size w14 g13 k13 u1) := U3.out.below b14 (own_lt U3.out).2
  rw [E11.out.1, E11.out.2]
  clear b14 hw14 T13 B13 U3 E11
  go_wp2_with fail
  refine (f15 ob _ (emptySC 0 0) w14 T14.out.o).mono ?_
  rintro e w15 ⟨rfl, q', hw15⟩
  have b15 : Below w14.heap.size w14 w15 := by rw [hw15]; exact below_drewN (Below.refl _ _) _
  have T15 : Hid (Pair sb w15 sb c11 _ ob (emptySC 0 0) _) := T14.out.below b15
  have B15 : Hid (Below sb w5 w15) := B14.out.trans (b15.mono T14.out.B)
  have U3c : Hid (OwnD w12.heap.size w15 g13 k13 u1) := U3b.out.below b15 (own_lt U3b.out).2
  rw [show (emptySC 0 0).de = 0 from rfl, show (emptySC 0 0).dw = 0 from rfl]
  clear b15 hw15 T14 B14 U3b
  -- they are compared
  go_wp2_with fail
  refine (f13 (some ⟨g13, 0, none⟩) (some ⟨g3, 0, none⟩) k13 k3 u1 w15 (own_drow U3c.out) (A1.out _ B15.out).row hu1).mono ?_
  rintro e w16 ⟨rfl, b16⟩
  have T16 : Hid (Pair sb w16 sb c11 _ ob (emptySC 0 0) _) := T15.out.below b16
  have B16 : Hid (Below sb w5 w16) := B15.out.trans (b16.mono T15.out.B)
  have v1 := VV.out.1
  have v2 := VV.out.2
  clear b16 T15 B15 U3c A1
  have R : Hid (Below w.heap.size w w16) := BW.out _ B16.out
  clear B16 BW
  go_wp2_with fail
  refine (f16 ob _ (emptySC 0 0) w16 T16.out.o).mono ?_
  rintro e w17 ⟨rfl, hw17⟩
  obtain rfl : w16 = w17 := hw17.symm
  clear hw17
  rw [show (emptySC 0 0).es.length = 0 from rfl]
  go_wp2_with fail
  refine (f17 ob _ (emptySC 0 0) w16 T16.out.o).mono ?_
  rintro e w17 ⟨rfl, hw17⟩
  obtain rfl : w16 = w17 := hw17.symm
  clear hw17
  rw [show (emptySC 0 0).ns.length = 0 from rfl]
  go_wp2
  go_ret
  exact ⟨rfl, R.out⟩

end Go.Proofs.Qxb6627582a
