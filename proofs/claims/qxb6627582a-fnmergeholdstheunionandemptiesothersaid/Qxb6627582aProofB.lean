/-
  THE PROOF of 'Rows.FnMergeHoldsTheUnionAndEmptiesOtherSaid': the shell's frame; the walk: Qxb6627582aLawB.lean.
-/
import Derived.Test.Qxb6627582aRows
import Derived.Test.Qxb6627582aLawB
import Derived.Test.Qxb6627582aOpens
import Derived.WalkKit
import Derived.ProofKit
import Derived.OpenShut
import Derived.Carry
namespace Go.Proofs.Qxb6627582a.fnMergeHoldsTheUnionAndEmptiesOther
open Go.ChangeShapes Go.WideShapes Go.ChangeAt Go.RowKit
set_option linter.unusedVariables false

theorem own : ownKnob Try.prog.godebug = none := by kernel_rfl
theorem laidOut : laidOutB Try.prog = true := by kernel_rfl

set_option maxRecDepth 100000 in
theorem lifted (os : Os) (started : os.Started) (H : Type) (enc : TypeId × Value → H) :
    ReturnsInHanded {} Try.checked os 4 .any (Rows.fnMergeHoldsTheUnionAndEmptiesOtherSpec.pre6 enc Try.prog Try.f4 Rows.fnMergeHoldsTheUnionAndEmptiesOtherRow.domain false) (Rows.fnMergeHoldsTheUnionAndEmptiesOtherSpec.post enc Try.prog Try.f4 false true false false) := by
  refine returnsInHanded_of_change (C := Try.checked) own started (by kernel_rfl) Try.func4
    (ChangeSpec.witness6 (enc := enc) (C := Try.checked) false ⟨#[], #[.slice none 0 0, .slice none 0 0, .int .i64 0, .int .i64 0, .int .i64 0, .int .i64 0], []⟩ 8 (by kernel_rfl) (by kernel_rfl) (by kernel_rfl) (by kernel_rfl)) ?_
  intro W base args ds gs before hval0 hW hcnd _
  have hval : ∀ (j : Nat) t v, Try.f4.params[j]? = some t → args[j]? = some v → Value.okWide Try.prog W .any base t v := hval0
  have hW' := hW
  obtain ⟨p, q, hA0, hV, rfl, hfz, hnd⟩ := hW
  have hA : DataW.TrodAll enc Try.prog W 0 (fun _ => true) true Try.f4.params.toList args.toList ds p := hA0
  rw [Try.params4] at hA hval
  obtain ⟨v0, vs0, d0, ds0, p0, q0, hargs0, rfl, rfl, h0, r0⟩ := trodAll_cons hA
  obtain ⟨v1, vs1, d1, ds1, p1, q1, hargs1, rfl, rfl, h1, r1⟩ := trodAll_cons r0
  obtain ⟨v2, vs2, d2, ds2, p2, q2, hargs2, rfl, rfl, h2, r2⟩ := trodAll_cons r1
  obtain ⟨v3, vs3, d3, ds3, p3, q3, hargs3, rfl, rfl, h3, r3⟩ := trodAll_cons r2
  obtain ⟨v4, vs4, d4, ds4, p4, q4, hargs4, rfl, rfl, h4, r4⟩ := trodAll_cons r3
  obtain ⟨v5, vs5, d5, ds5, p5, q5, hargs5, rfl, rfl, h5, r5⟩ := trodAll_cons r4
  obtain ⟨rfl, rfl, rfl⟩ := trodAll_nil r5
  obtain rfl : args = #[v0, v1, v2, v3, v4, v5] := by cases args; simp_all
  obtain ⟨rfl, rfl⟩ := trodVars_none hV
  have k0 := h0
  obtain ⟨a0, len0, cap0, rfl⟩ := okWide_slice Try.underlying22 (hval 0 22 v0 rfl rfl)
  obtain ⟨fuel0, hf0⟩ := h0
  obtain ⟨ao0, ac0, xs0, hcs0, _, row0⟩ := open_drow hf0
  simp [Value.cells] at hcs0
  obtain ⟨rfl, rfl, rfl⟩ := hcs0
  have k1 := h1
  obtain ⟨a1, len1, cap1, rfl⟩ := okWide_slice Try.underlying22 (hval 1 22 v1 rfl rfl)
  obtain ⟨fuel1, hf1⟩ := h1
  obtain ⟨ao1, ac1, xs1, hcs1, _, row1⟩ := open_drow hf1
  simp [Value.cells] at hcs1
  obtain ⟨rfl, rfl, rfl⟩ := hcs1
  obtain ⟨n2, rfl, rfl, rfl, wn2⟩ := open_int Try.underlying3 (hval 2 3 v2 rfl rfl) h2
  obtain ⟨n3, rfl, rfl, rfl, wn3⟩ := open_int Try.underlying3 (hval 3 3 v3 rfl rfl) h3
  obtain ⟨n4, rfl, rfl, rfl, wn4⟩ := open_int Try.underlying3 (hval 4 3 v4 rfl rfl) h4
  obtain ⟨n5, rfl, rfl, rfl, wn5⟩ := open_int Try.underlying3 (hval 5 3 v5 rfl rfl) h5
  clear hA0 hval0
  simp only [List.append_nil] at hW'
  have hlt0 : ∀ x ∈ p0, x.block < W.heap.size := fun x hx => hW'.lt x (by simp [hx])
  have hlt1 : ∀ x ∈ p1, x.block < W.heap.size := fun x hx => hW'.lt x (by simp [hx])
  refine (law4 a0 a1 cap0 cap1 xs0 xs1 n2 n3 n4 n5 W row0 row1).mono fun e W' ⟨he, hb⟩ => ?_
  subst he
  have hargs : DataW.TrodAll enc Try.prog W' 0 (fun b => decide (b < W.heap.size)) true _ _ _ (p0 ++ (p1 ++ ([] ++ ([] ++ ([] ++ ([] ++ [])))))) :=
    (trodAll_cons_mk (Below.trod laidOut (by kernel_rfl) (of_decide_eq_true (by kernel_rfl)) k0 hb hlt0) (trodAll_cons_mk (Below.trod laidOut (by kernel_rfl) (of_decide_eq_true (by kernel_rfl)) k1 hb hlt1) (trodAll_cons_mk (shut_int Try.underlying3 wn2) (trodAll_cons_mk (shut_int Try.underlying3 wn3) (trodAll_cons_mk (shut_int Try.underlying3 wn4) (trodAll_cons_mk (shut_int Try.underlying3 wn5) trodAll_mk0))))))
  simp only [List.append_nil] at hargs
  exact ⟨_, rfl, ⟨_, _, _, [], _, [], hW', trodAll_mk1 (shut_bool Try.underlying4 _), hargs, rfl, hb.frame _, fun h => by cases h⟩⟩

theorem over : Rows.fnMergeHoldsTheUnionAndEmptiesOtherRow.holds Try.pinned (OpenSpec.ofChange Rows.fnMergeHoldsTheUnionAndEmptiesOtherSpec) :=
  OpenClaim.holds_of_wide 4 Try.f4 rfl rfl rfl rfl rfl rfl rfl ⟨rfl, rfl, rfl, rfl, rfl⟩ rfl rfl rfl rfl rfl (by kernel_rfl) Try.func4 (by kernel_rfl)
    (of_decide_eq_true (by kernel_rfl)) (by unfold Func.isWrapper; first | (rw [if_pos (by decide +kernel)]; kernel_rfl) | (rw [if_neg (by decide +kernel)]; exact ⟨rfl, rfl⟩))
    (fun os started H enc _ => lifted os started H enc)

/-- THE STATEMENT -/
theorem proved : Rows.FnMergeHoldsTheUnionAndEmptiesOtherSaid :=
  over
end Go.Proofs.Qxb6627582a.fnMergeHoldsTheUnionAndEmptiesOther
