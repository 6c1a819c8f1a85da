import Derived.Test.Qxb6627582aWalksA
import Derived.Deep.RegionHeld3
import Derived.Sort.Grow
namespace Go.Proofs.Qxb6627582a
open Go.RowKit Go.Sort

set_option maxHeartbeats 400000 in
theorem f35 (a : Int) (w : World) : Calls Try.prog 35 #[.int .i32 a] w fun e w' => e = .returned (.bool false) ∧ w' = w := by
  go_enter Try.func35, Try.ntmps35
  go_wp2
  go_ret
  simp

set_option maxHeartbeats 400000 in
theorem f32 (a b : Int) (w : World) :
    Calls Try.prog 32 #[.int .i32 a, .int .i32 b] w fun e w' => e = .returned (.int .i64 (cmpI a b)) ∧ w' = w := by
  go_enter Try.func32, Try.ntmps32
  go_wp2_with fail
  refine (f35 a _).mono ?_
  rintro e w1 ⟨rfl, rfl⟩
  go_wp2_with fail
  refine (f35 b _).mono ?_
  rintro e w1 ⟨rfl, rfl⟩
  by_cases h1 : a < b
  · go_wp2
    go_ret
    simp [cmpI, h1]
  · by_cases h2 : b < a
    · go_wp2
      go_ret
      simp [cmpI, h1, h2]
    · obtain rfl : a = b := by omega
      go_wp2
      go_ret
      simp [cmpI]

set_option maxHeartbeats 1000000 in
theorem f31 (B : Nat) (x y z : Int) (w : World) (hx : w.cell? ⟨B, 0, none⟩ = some (.int .i64 x)) (hy : w.cell? ⟨B, 1, none⟩ = some (.int .i64 y)) (hz : w.cell? ⟨B, 2, none⟩ = some (.int .i64 z)) :
    Calls Try.prog 31 #[.slice (some ⟨B, 0, none⟩) 3 3] w fun e w' => e = .returned (.int .i64 (orC x (orC y z))) ∧ w' = w := by
  go_enter Try.func31, Try.ntmps31
  go_wp2
  go_loopw [8] (fun i wr => wr = w ∧ (i = .int .i64 0 ∨ (i = .int .i64 1 ∧ x = 0) ∨ (i = .int .i64 2 ∧ x = 0 ∧ y = 0) ∨ (i = .int .i64 3 ∧ x = 0 ∧ y = 0 ∧ z = 0))) (fun i _ => 3 - (intOf i).toNat)
  case atStart => exact ⟨rfl, .inl rfl⟩
  case round =>
    obtain ⟨rfl, hrel⟩ := hrel
    rcases hrel with rfl | ⟨rfl, rfl⟩ | ⟨rfl, rfl, rfl⟩ | ⟨rfl, rfl, rfl, rfl⟩
    · by_cases h1 : (x == 0) = false
      · go_wp2
        go_ret
        have h2 : ¬ x = 0 := by simpa using h1
        exact ⟨by rw [orC, if_neg h2]; rfl, rfl⟩
      · obtain rfl : x = 0 := by simpa using h1
        go_wp2
        go_roundw
        case rel => simp
        case measure => simp [intOf]
    · by_cases h1 : (y == 0) = false
      · go_wp2
        go_ret
        have h2 : ¬ y = 0 := by simpa using h1
        exact ⟨by rw [orC, if_pos rfl, orC, if_neg h2]; rfl, rfl⟩
      · obtain rfl : y = 0 := by simpa using h1
        go_wp2
        go_roundw
        case rel => simp
        case measure => simp [intOf]
    · by_cases h1 : (z == 0) = false
      · go_wp2
        go_ret
        exact ⟨by rw [orC, if_pos rfl, orC, if_pos rfl]; rfl, rfl⟩
      · obtain rfl : z = 0 := by simpa using h1
        go_wp2
        go_roundw
        case rel => simp
        case measure => simp [intOf]
    · go_wp2
      go_ret
      exact ⟨by rw [orC, if_pos rfl, orC, if_pos rfl]; rfl, rfl⟩

def cmpE (a b : En) : Int := orC (cmpI a.l b.l) (orC (cmpI a.c b.c) (cmpI a.n b.n))

set_option maxHeartbeats 1000000 in
theorem f28 (a b : En) (w : World) :
    Calls Try.prog 28 #[valE a, valE b] w fun e w' => e = .returned (.int .i64 (cmpE a b)) ∧ ∃ q os, w' = grow (w.drewN q) os := by
  go_enter Try.func28, Try.ntmps28
  go_wp2
  obtain ⟨B, hB⟩ : ∃ B, B = w.heap.size := ⟨_, rfl⟩
  obtain ⟨W, hW⟩ : ∃ W, W = (w.alloc (.cells #[.int .i32 a.l, .int .i32 a.c, .int .i32 a.n] 55)).alloc (.cells #[.int .i32 b.l, .int .i32 b.c, .int .i32 b.n] 55) := ⟨_, rfl⟩
  rw [← hW, ← hB]
  have c1 : W.cell? ⟨B, 0, none⟩ = some (.int .i32 a.l) := by rw [hW, hB]; go_simp
  have c2 : W.cell? ⟨B, 1, none⟩ = some (.int .i32 a.c) := by rw [hW, hB]; go_simp
  have c3 : W.cell? ⟨B, 2, none⟩ = some (.int .i32 a.n) := by rw [hW, hB]; go_simp
  have d1 : W.cell? ⟨B + 1, 0, none⟩ = some (.int .i32 b.l) := by rw [hW, hB]; go_simp
  have d2 : W.cell? ⟨B + 1, 1, none⟩ = some (.int .i32 b.c) := by rw [hW, hB]; go_simp
  have d3 : W.cell? ⟨B + 1, 2, none⟩ = some (.int .i32 b.n) := by rw [hW, hB]; go_simp
  have HW : Hid (W = (w.alloc (.cells #[.int .i32 a.l, .int .i32 a.c, .int .i32 a.n] 55)).alloc (.cells #[.int .i32 b.l, .int .i32 b.c, .int .i32 b.n] 55)) := hW
  clear hW hB
  go_region_held3 (fun w' => w'.cell? ⟨B, 0, none⟩ = some (.int .i32 a.l) ∧ w'.cell? ⟨B, 1, none⟩ = some (.int .i32 a.c) ∧ w'.cell? ⟨B, 2, none⟩ = some (.int .i32 a.n) ∧ w'.cell? ⟨B + 1, 0, none⟩ = some (.int .i32 b.l) ∧ w'.cell? ⟨B + 1, 1, none⟩ = some (.int .i32 b.c) ∧ w'.cell? ⟨B + 1, 2, none⟩ = some (.int .i32 b.n)) (go_keep)
    (first
      | (go_at_call 32; refine (f32 _ _ _).mono ?_; rintro e w' ⟨rfl, rfl⟩)
      | (go_at_call 31; refine (f31 _ (cmpI a.l b.l) (cmpI a.c b.c) (cmpI a.n b.n) _ (by go_simp) (by go_simp) (by go_simp)).mono ?_; rintro e w' ⟨rfl, rfl⟩))
  go_wp2
  go_ret
  refine ⟨rfl, ?_⟩
  rw [HW.out]
  exact ⟨1, _, by rw [alloc_eq_grow, alloc_eq_grow, alloc_eq_grow, grow_grow, grow_grow]; rfl⟩

end Go.Proofs.Qxb6627582a
