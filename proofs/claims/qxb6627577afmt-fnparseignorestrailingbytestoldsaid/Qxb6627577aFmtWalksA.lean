import Derived.Test.Qxb6627577aFmtCards
import Derived.Test.Qxb6627577aFmtErrF
import Derived.WalkKit
import Derived.WalkSpells
import Derived.WalkLawsBesides
import Derived.Lib.EndianBits
import Derived.RegionTactic
import Derived.Deep.QuietTactic
import Derived.BigQuiet
namespace Go.Proofs.Qxb6627577aFmt
open Go.RowKit Go.Extern.Stop Go.Stop Go.Extern

set_option maxHeartbeats 1000000 in
theorem u16_any (g o n c : Nat) (z0 z1 : Int) (w : World) (hn : 2 ≤ n) (b0 : 0 ≤ z0 ∧ z0 ≤ 255) (b1 : 0 ≤ z1 ∧ z1 ≤ 255)
    (c0 : w.cell? ⟨g, o, none⟩ = some (.int .u8 z0)) (c1 : w.cell? ⟨g, o + 1, none⟩ = some (.int .u8 z1)) :
    Calls Tryf.prog 10 #[.agg #[], .slice (some ⟨g, o, none⟩) n c] w fun e w' => e = .returned (.int .u16 (z0 + z1 * 256)) ∧ Below w.heap.size w w' := by
  have bl : Below w.heap.size w (w.alloc (.cells #[] 45)) := (Below.refl _ w).alloc (Nat.le_refl _) _
  have d0 := cell_later bl c0
  have d1 := cell_later bl c1
  have i0 : (0 : Nat) < n := by omega
  have i1 : (1 : Int) < (n : Int) := by omega
  go_enter Tryf.func10, Tryf.ntmps10
  go_wp2
  go_quiet (fail)
  go_wp2
  go_ret
  refine ⟨?_, below_drewN bl _⟩
  simp (disch := omega) only [u16_or8]
  rfl

set_option maxHeartbeats 2000000 in
theorem u32_any (g o n c : Nat) (z0 z1 z2 z3 : Int) (w : World) (hn : 4 ≤ n) (b0 : 0 ≤ z0 ∧ z0 ≤ 255) (b1 : 0 ≤ z1 ∧ z1 ≤ 255) (b2 : 0 ≤ z2 ∧ z2 ≤ 255) (b3 : 0 ≤ z3 ∧ z3 ≤ 255)
    (c0 : w.cell? ⟨g, o, none⟩ = some (.int .u8 z0)) (c1 : w.cell? ⟨g, o + 1, none⟩ = some (.int .u8 z1)) (c2 : w.cell? ⟨g, o + 2, none⟩ = some (.int .u8 z2)) (c3 : w.cell? ⟨g, o + 3, none⟩ = some (.int .u8 z3)) :
    Calls Tryf.prog 9 #[.agg #[], .slice (some ⟨g, o, none⟩) n c] w fun e w' => e = .returned (.int .u32 (z0 + z1 * 256 + z2 * 65536 + z3 * 16777216)) ∧ Below w.heap.size w w' := by
  have bl : Below w.heap.size w (w.alloc (.cells #[] 45)) := (Below.refl _ w).alloc (Nat.le_refl _) _
  have d0 := cell_later bl c0
  have d1 := cell_later bl c1
  have d2 := cell_later bl c2
  have d3 := cell_later bl c3
  have i0 : (0 : Nat) < n := by omega
  have i1 : (1 : Int) < (n : Int) := by omega
  have i2 : (2 : Int) < (n : Int) := by omega
  have i3 : (3 : Int) < (n : Int) := by omega
  go_enter Tryf.func9, Tryf.ntmps9
  go_wp2
  go_quiet (fail)
  go_wp2
  go_ret
  refine ⟨?_, below_drewN bl _⟩
  simp (disch := omega) only [u32_or8, u32_or16, u32_or24]
  rfl

/-- an error of fmt.Errorf's make -/
def IsErr (v : Value) : Prop := ∃ a, v = .iface 55 (.pointer (some a))

/-- is the body of a version 5 quote a TD report? -/
def bodyOk (body size : Int) : Bool := (body == 2 && size == 584) || (body == 3 && size == 648) || (body == 4 && decide (648 ≤ size))

theorem bo_a {body size : Int} (h : (body == 2) = true) (g : (!size == 584) = false) : bodyOk body size = true := by
  simp at h g; subst h; simp [bodyOk, g]
theorem bo_b {body size : Int} (h : (body == 3) = true) (g : (!size == 648) = false) : bodyOk body size = true := by
  simp at h g; subst h; simp [bodyOk, g]
theorem bo_c {body size : Int} (h : (body == 4) = true) (g : (!decide (648 ≤ size)) = false) : bodyOk body size = true := by
  simp at h g; subst h; simp [bodyOk, g]
theorem bo_d {body size : Int} (h : (body == 2) = true) (g : (!size == 584) = true) : bodyOk body size = false := by
  simp at h g; subst h; simp [bodyOk, g]
theorem bo_e {body size : Int} (h : (body == 3) = true) (g : (!size == 648) = true) : bodyOk body size = false := by
  simp at h g; subst h; simp [bodyOk, g]
theorem bo_f {body size : Int} (h : (body == 4) = true) (g : (!decide (648 ≤ size)) = true) : bodyOk body size = false := by
  simp at h g; subst h; simp [bodyOk]; omega
theorem bo_g {body size : Int} (h : (body == 2) = false) (g : (body == 3) = false) (k : (body == 4) = false) : bodyOk body size = false := by
  simp [bodyOk, h, g, k]

set_option maxHeartbeats 1000000 in
theorem body_any (F : Interp) (body size : Int) (w : World) (hF : F.answers w.tape) :
    Calls Tryf.prog 11 #[.int .u16 body, .int .u64 size] w fun e w' => ((bodyOk body size = true ∧ e = .returned .nilIface) ∨ (bodyOk body size = false ∧ ∃ v, e = .returned v ∧ IsErr v)) ∧ Below w.heap.size w w' := by
  have hF' := answers_open hF
  go_enter Tryf.func11, Tryf.ntmps11
  go_wp2
  all_goals
    go_ret
    first
    | exact ⟨Or.inl ⟨bo_a ‹_› ‹_›, rfl⟩, Below.refl _ _⟩
    | exact ⟨Or.inl ⟨bo_b ‹_› ‹_›, rfl⟩, Below.refl _ _⟩
    | exact ⟨Or.inl ⟨bo_c ‹_› ‹_›, rfl⟩, Below.refl _ _⟩
    | exact ⟨Or.inr ⟨bo_d ‹_› ‹_›, _, rfl, ⟨_, rfl⟩⟩, (((Below.refl _ w).alloc (Nat.le_refl _) _).alloc (by simp) _).drew⟩
    | exact ⟨Or.inr ⟨bo_e ‹_› ‹_›, _, rfl, ⟨_, rfl⟩⟩, (((Below.refl _ w).alloc (Nat.le_refl _) _).alloc (by simp) _).drew⟩
    | exact ⟨Or.inr ⟨bo_f ‹_› ‹_›, _, rfl, ⟨_, rfl⟩⟩, (((Below.refl _ w).alloc (Nat.le_refl _) _).alloc (by simp) _).drew⟩
    | exact ⟨Or.inr ⟨bo_g ‹(body == 2) = false› ‹(body == 3) = false› ‹(body == 4) = false›, _, rfl, ⟨_, rfl⟩⟩, (((Below.refl _ w).alloc (Nat.le_refl _) _).alloc (by simp) _).drew⟩

end Go.Proofs.Qxb6627577aFmt
