/-
  No cell of these rows narrows 'for every input' (looked for: loops, veiled, ifaces, maps, wideKeys, modest, calm, conditions, laid).
  DERIVED. THE GIVEN ROWS OF THIS SEAT. 2 by the template 'for every input the law returns true; each argument reads behind the call as it read before'; 0 by the template 'total and deterministic' (their statements: Qxb6627582aTotals.lean).
  GIVEN WITH THE SEED: the statements are not yours to turn. If you find one false, say at which input.
  Laid BY PROGRAM, IN A SANDBOX (cutbox-rows.mjs): the forced cells as the released guide's own fill.sh prints them over the translation 0ec925ce4e1bd1fc… (all of the seat's roots in one cut). By AI agents, Wed Nov 11 2026. No macro, syntax, notation, axiom, sorry.
-/
import Derived.Test.Qxb6627582aChecked
import GoSem.Claim
import GoSem.ClaimJoined
import GoSem.ClaimMapViews
import Derived.JoinedTies
import Derived.KernelRfl
namespace Go.Proofs.Qxb6627582a
/- THE CELL 'sum', in the pinned program and in every row, IS THE sha256 OF THE DUMP (.gsa) THAT Qxb6627582aProg.lean LOADS. Nothing in Lean hashes anything: it is a label: what it is worth is what the hold of that sum in a sandbox is worth. -/
noncomputable def Try.pinned : Pinned := { name := "qxb6627582a", sum := "0ec925ce4e1bd1fc4d6ffc705201f56065d07fdc489408b9eace422492df2270", checked := Try.checked }
namespace Rows
def none {H : Type} : Left H := { results := [], args := [] }

/-- 'zzlaws_pkg_diag_b1.FnMergedSetsStayApart': WHATEVER THE INPUT: true; the input reads as it did. -/
def fnMergedSetsStayApartSpec : ChangeSpec := { name := "fnMergedSetsStayApart", fn := fun _ => fun
  | [d1, d2, d3, d4] => { results := [.lit (.bool true)], args := [d1, d2, d3, d4] }
  | _ => none }
def fnMergedSetsStayApartRow : OpenClaim := { program := "qxb6627582a", sum := "0ec925ce4e1bd1fc4d6ffc705201f56065d07fdc489408b9eace422492df2270", func := "example.com/tellem/tellem/zzlaws_pkg_diag_b1.FnMergedSetsStayApart", spec := "fnMergedSetsStayApart", unfollowed := true, recurses := true, plainKeys := false, apart := false }
def FnMergedSetsStayApartSaid : Prop := fnMergedSetsStayApartRow.holds Try.pinned (OpenSpec.ofChange fnMergedSetsStayApartSpec)

/-- ITS FALSE NEIGHBOUR: 'it returns false'. Refute it at one input. -/
def fnMergedSetsStayApartWrong : ChangeSpec := { name := "fnMergedSetsStayApart", fn := fun _ => fun
  | [d1, d2, d3, d4] => { results := [.lit (.bool false)], args := [d1, d2, d3, d4] }
  | _ => none }
def FnMergedSetsStayApartWrongFalsely : Prop := fnMergedSetsStayApartRow.holds Try.pinned (OpenSpec.ofChange fnMergedSetsStayApartWrong)

/-- 'zzlaws_pkg_diag_b1.FnMergeHoldsTheUnionAndEmptiesOther': WHATEVER THE INPUT: true; the input reads as it did. -/
def fnMergeHoldsTheUnionAndEmptiesOtherSpec : ChangeSpec := { name := "fnMergeHoldsTheUnionAndEmptiesOther", fn := fun _ => fun
  | [d1, d2, d3, d4, d5, d6] => { results := [.lit (.bool true)], args := [d1, d2, d3, d4, d5, d6] }
  | _ => none }
def fnMergeHoldsTheUnionAndEmptiesOtherRow : OpenClaim := { program := "qxb6627582a", sum := "0ec925ce4e1bd1fc4d6ffc705201f56065d07fdc489408b9eace422492df2270", func := "example.com/tellem/tellem/zzlaws_pkg_diag_b1.FnMergeHoldsTheUnionAndEmptiesOther", spec := "fnMergeHoldsTheUnionAndEmptiesOther", unfollowed := true, recurses := true, plainKeys := false, apart := false }
def FnMergeHoldsTheUnionAndEmptiesOtherSaid : Prop := fnMergeHoldsTheUnionAndEmptiesOtherRow.holds Try.pinned (OpenSpec.ofChange fnMergeHoldsTheUnionAndEmptiesOtherSpec)

/-- ITS FALSE NEIGHBOUR: 'it returns false'. Refute it at one input. -/
def fnMergeHoldsTheUnionAndEmptiesOtherWrong : ChangeSpec := { name := "fnMergeHoldsTheUnionAndEmptiesOther", fn := fun _ => fun
  | [d1, d2, d3, d4, d5, d6] => { results := [.lit (.bool false)], args := [d1, d2, d3, d4, d5, d6] }
  | _ => none }
def FnMergeHoldsTheUnionAndEmptiesOtherWrongFalsely : Prop := fnMergeHoldsTheUnionAndEmptiesOtherRow.holds Try.pinned (OpenSpec.ofChange fnMergeHoldsTheUnionAndEmptiesOtherWrong)

end Rows
end Go.Proofs.Qxb6627582a
