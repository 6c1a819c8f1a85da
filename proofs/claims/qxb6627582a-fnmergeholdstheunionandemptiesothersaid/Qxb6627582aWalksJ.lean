import Derived.Test.Qxb6627582aWalksH
import Derived.Lib.AppendZerosOnto
namespace Go.Proofs.Qxb6627582a
open Go.RowKit Go.Sort

set_option maxHeartbeats 1000000 in
/-- slices.Grow(s, 0) -/
theorem f29_zero (ao : Option Addr) (l c : Nat) (w : World) (h : l = 0) (hc : c = 0) :
    Calls Try.prog 29 #[.slice ao l c, .int .i64 0] w fun e w' => e = .returned (.slice ao l c) ∧ w' = w := by
  subst h
  subst hc
  go_enter Try.func29, Try.ntmps29
  go_wp2
  go_ret
  exact ⟨rfl, rfl⟩

theorem zeroCells_size (z : Array Value) (n : Nat) : (Builtin.zeroCells z n).size = n * z.size := size_zeroCells z n

set_option maxRecDepth 100000 in
set_option maxHeartbeats 1000000 in
/-- slices.Grow(s, len(s)) where there is no room -/
theorem f29 (g c : Nat) (es : List En) (w : World) (ho : w.ownsRow 0 55 3 (.slice (some ⟨g, 0, none⟩) c c) c (es.flatMap encE)) (h0 : 0 < c) (hl : c ≤ 1048576) :
    Calls Try.prog 29 #[.slice (some ⟨g, 0, none⟩) c c, .int .i64 c] w fun e w' => ∃ G, e = .returned (.slice (some ⟨w.heap.size, 0, none⟩) c G) ∧ w'.ownsRow 0 55 3 (.slice (some ⟨w.heap.size, 0, none⟩) c G) c (es.flatMap encE) ∧ Below w.heap.size w w' ∧ c < G := by
  obtain ⟨i, hi, hz0, hz1, hz2⟩ := info_parts Try.info55
  have hcl : (es.flatMap encE).length = c * i.size := by rw [hz1]; exact ho.1
  have hold : (Builtin.firstCells i.size c (.slice (some ⟨g, 0, none⟩) c c)).run Try.prog w.drew = .ok (es.flatMap encE).toArray w.drew :=
    run_firstCells_some w.drew i.size c ⟨g, 0, none⟩ c c (es.flatMap encE) hcl (fun j v hj => ho.cells (g := g) rfl j v hj)
  have hrz : ∀ ty, (Builtin.append_ #[45, 3] ty #[.slice (some ⟨g, 0, none⟩) c c, .int .i64 (c : Int)]).run Try.prog w =
      .ok (.slice (some ⟨w.heap.size, 0, none⟩) (c + c) (grownCap w (c + c) c 55)) (w.drew.alloc (.cells ((es.flatMap encE).toArray ++ Builtin.zeroCells #[.int .i32 0, .int .i32 0, .int .i32 0] c ++ Builtin.zeroCells #[.int .i32 0, .int .i32 0, .int .i32 0] (grownCap w (c + c) c 55 - (c + c))) 55)) := fun ty => by
    have h := Lib.run_append_grow_zeros w 45 3 ty 55 i _ .i64 .i64 Try.underlying45 Try.underlying3 hi hz0 (some ⟨g, 0, none⟩) c c (es.flatMap encE) hold c h0 (by omega) (by omega) (by omega) (by rw [hz2]; omega)
      (growslice_fits (by omega) (by rw [hz2]; omega))
    exact h
  have hGn : c + c ≤ grownCap w (c + c) c 55 := grownCap_ge w _ _ _
  have hGm : grownCap w (c + c) c 55 ≤ maxLen := grownCap_le_maxLen w (c + c) c 55 (by unfold maxLen; omega)
  have hlen := ho.1
  obtain ⟨G, hG⟩ : ∃ G, G = grownCap w (c + c) c 55 := ⟨_, rfl⟩
  rw [← hG] at hrz hGn hGm
  have hrow : (w.drew.alloc (.cells ((es.flatMap encE).toArray ++ Builtin.zeroCells #[.int .i32 0, .int .i32 0, .int .i32 0] c ++ Builtin.zeroCells #[.int .i32 0, .int .i32 0, .int .i32 0] (G - (c + c))) 55)).ownsRow 0 55 3 (.slice (some ⟨w.heap.size, 0, none⟩) c G) c (es.flatMap encE) := by
    refine ⟨ho.1, .inr ⟨w.heap.size, G, _, rfl, Nat.zero_le _, heap_alloc_new w.drew _, by omega, hGm, ?_, ?_⟩⟩
    · rw [Array.size_append, Array.size_append, zeroCells_size, zeroCells_size, List.size_toArray, hlen]
      show c * 3 + c * 3 + (G - (c + c)) * 3 = G * 3
      omega
    · rw [Array.toList_append, Array.toList_append, List.append_assoc]
      exact List.take_left' hlen
  have hG63 : G ≤ 9223372036854775807 := by unfold maxLen at hGm; omega
  obtain ⟨A, hA⟩ : ∃ A, A = (es.flatMap encE).toArray ++ Builtin.zeroCells #[.int .i32 0, .int .i32 0, .int .i32 0] c ++ Builtin.zeroCells #[.int .i32 0, .int .i32 0, .int .i32 0] (G - (c + c)) := ⟨_, rfl⟩
  rw [← hA] at hrow hrz
  clear hA
  have HR : Hid ((w.drew.alloc (.cells A 55)).ownsRow 0 55 3 (.slice (some ⟨w.heap.size, 0, none⟩) c G) c (es.flatMap encE)) := hrow
  have hbel : Hid (Below w.heap.size w (w.drew.alloc (.cells A 55))) := (Below.refl _ _).drew.alloc (Nat.le_refl _) _
  clear hG hold hcl hlen ho hGm hrow hz0 hz1 hz2 hi
  have hg3 : c + c ≤ G := hGn
  have i1 : (0 : Int) < (c : Int) := by omega
  have i2 : (c : Int) ≤ (G : Int) := by omega
  go_enter Try.func29, Try.ntmps29
  go_wp2_with (at_builtin; refine Lib.wpList_append_run _ rfl _ _ _ _ rfl _ _ rfl rfl _ _ (hrz _) ?_)
  go_ret
  exact ⟨G, rfl, HR.out, hbel.out, by omega⟩

end Go.Proofs.Qxb6627582a
