import Derived.Test.Qxb6627582aPlain
import Derived.WalkKit
import Derived.WalkSpells
import Derived.WalkLawsBesides
namespace Go.Proofs.Qxb6627582a
open Go.RowKit

theorem wrap32 {x : Int} (h : -2147483648 ≤ x ∧ x ≤ 2147483647) : IntKind.i64.wrap x = x := by
  simp [IntKind.wrap, IntKind.bits, IntKind.signed]; omega

set_option maxHeartbeats 400000 in
theorem f25 (a b : Int) (w : World) :
    Calls Try.prog 25 #[.int .i64 a, .int .i64 b] w fun e w' => e = .returned (.int .i64 (cmpI a b)) ∧ w' = w := by
  go_enter Try.func25, Try.ntmps25
  by_cases h1 : a < b
  · go_wp2
    go_ret
    simp [cmpI, h1]
  · by_cases h2 : b < a
    · go_wp2
      go_ret
      simp [cmpI, h1, h2]
    · obtain rfl : a = b := by omega
      go_wp2
      go_ret
      simp [cmpI]

set_option maxHeartbeats 400000 in
theorem f26 (a b : ByteArray) (w : World) :
    Calls Try.prog 26 #[.string a, .string b] w fun e w' => e = .returned (.int .i64 (cmpS a b)) ∧ w' = w := by
  go_enter Try.func26, Try.ntmps26
  by_cases h1 : a.toList < b.toList
  · have t1 : Op.bytesLess a.toList b.toList = true := by rw [bytesLess_eq]; simpa using h1
    go_wp2
    go_ret
    simp [cmpS, h1]
  · have t1 : Op.bytesLess a.toList b.toList = false := by rw [bytesLess_eq]; simpa using h1
    by_cases h2 : b.toList < a.toList
    · have t2 : (a.toList == b.toList) = false := by
        rw [beq_eq_false_iff_ne]
        intro e
        rw [e] at h2
        exact List.lt_irrefl _ h2
      go_wp2
      go_ret
      simp [cmpS, h1, h2]
    · have t2 : (a.toList == b.toList) = true := by
        rw [beq_iff_eq]
        exact List.le_antisymm h2 h1
      go_wp2
      go_ret
      simp [cmpS, h1, h2]

abbrev boxD (d : Dg) : Obj := .cells #[.int .i32 d.l, .int .i32 d.c, .string d.p, .int .i64 d.s, .string d.r, .string d.m] 38

set_option maxHeartbeats 1000000 in
theorem f20 (a b : Dg) (w : World) :
    Calls Try.prog 20 #[valD a, valD b] w fun e w' => e = .returned (.int .i64 (cmpD a b)) ∧ w' = (w.alloc (boxD a)).alloc (boxD b) := by
  have a1 := wrap32 a.hl
  have a2 := wrap32 a.hc
  have b1 := wrap32 b.hl
  have b2 := wrap32 b.hc
  go_enter Try.func20, Try.ntmps20
  go_wp2_with fail
  refine (f25 a.l b.l _).mono ?_
  rintro e w1 ⟨rfl, rfl⟩
  obtain ⟨x1, h1⟩ : ∃ x, x = cmpI a.l b.l := ⟨_, rfl⟩
  rw [← h1]
  by_cases z1 : (x1 == 0) = false
  · go_wp2
    go_ret
    have y1 : ¬ cmpI a.l b.l = 0 := by rw [← h1]; simpa using z1
    have E : cmpD a b = x1 := by rw [h1]; simp only [cmpD, orC, if_neg y1]
    rw [E, h1]
    exact ⟨rfl, rfl⟩
  have y1 : cmpI a.l b.l = 0 := by rw [← h1]; simpa using z1
  obtain rfl : x1 = 0 := by rw [h1, y1]
  clear z1 h1
  go_wp2_with fail
  refine (f25 a.c b.c _).mono ?_
  rintro e w1 ⟨rfl, rfl⟩
  obtain ⟨x2, h2⟩ : ∃ x, x = cmpI a.c b.c := ⟨_, rfl⟩
  rw [← h2]
  by_cases z1 : (x2 == 0) = false
  · go_wp2
    go_ret
    have y2 : ¬ cmpI a.c b.c = 0 := by rw [← h2]; simpa using z1
    have E : cmpD a b = x2 := by rw [h2]; simp only [cmpD, orC, if_pos y1, if_neg y2]
    rw [E, h2]
    exact ⟨rfl, rfl⟩
  have y2 : cmpI a.c b.c = 0 := by rw [← h2]; simpa using z1
  obtain rfl : x2 = 0 := by rw [h2, y2]
  clear z1 h2
  go_wp2_with fail
  refine (f26 a.p b.p _).mono ?_
  rintro e w1 ⟨rfl, rfl⟩
  obtain ⟨x3, h3⟩ : ∃ x, x = cmpS a.p b.p := ⟨_, rfl⟩
  rw [← h3]
  by_cases z1 : (x3 == 0) = false
  · go_wp2
    go_ret
    have y3 : ¬ cmpS a.p b.p = 0 := by rw [← h3]; simpa using z1
    have E : cmpD a b = x3 := by rw [h3]; simp only [cmpD, orC, if_pos y1, if_pos y2, if_neg y3]
    rw [E, h3]
    exact ⟨rfl, rfl⟩
  have y3 : cmpS a.p b.p = 0 := by rw [← h3]; simpa using z1
  obtain rfl : x3 = 0 := by rw [h3, y3]
  clear z1 h3
  go_wp2_with fail
  refine (f25 a.s b.s _).mono ?_
  rintro e w1 ⟨rfl, rfl⟩
  obtain ⟨x4, h4⟩ : ∃ x, x = cmpI a.s b.s := ⟨_, rfl⟩
  rw [← h4]
  by_cases z1 : (x4 == 0) = false
  · go_wp2
    go_ret
    have y4 : ¬ cmpI a.s b.s = 0 := by rw [← h4]; simpa using z1
    have E : cmpD a b = x4 := by rw [h4]; simp only [cmpD, orC, if_pos y1, if_pos y2, if_pos y3, if_neg y4]
    rw [E, h4]
    exact ⟨rfl, rfl⟩
  have y4 : cmpI a.s b.s = 0 := by rw [← h4]; simpa using z1
  obtain rfl : x4 = 0 := by rw [h4, y4]
  clear z1 h4
  go_wp2_with fail
  refine (f26 a.r b.r _).mono ?_
  rintro e w1 ⟨rfl, rfl⟩
  obtain ⟨x5, h5⟩ : ∃ x, x = cmpS a.r b.r := ⟨_, rfl⟩
  rw [← h5]
  by_cases z1 : (x5 == 0) = false
  · go_wp2
    go_ret
    have y5 : ¬ cmpS a.r b.r = 0 := by rw [← h5]; simpa using z1
    have E : cmpD a b = x5 := by rw [h5]; simp only [cmpD, orC, if_pos y1, if_pos y2, if_pos y3, if_pos y4, if_neg y5]
    rw [E, h5]
    exact ⟨rfl, rfl⟩
  have y5 : cmpS a.r b.r = 0 := by rw [← h5]; simpa using z1
  obtain rfl : x5 = 0 := by rw [h5, y5]
  clear z1 h5
  go_wp2_with fail
  refine (f26 a.m b.m _).mono ?_
  rintro e w1 ⟨rfl, rfl⟩
  go_wp2
  go_ret
  have E : cmpD a b = cmpS a.m b.m := by simp only [cmpD, orC, if_pos y1, if_pos y2, if_pos y3, if_pos y4, if_pos y5]
  rw [E]
  exact ⟨rfl, rfl⟩

end Go.Proofs.Qxb6627582a
