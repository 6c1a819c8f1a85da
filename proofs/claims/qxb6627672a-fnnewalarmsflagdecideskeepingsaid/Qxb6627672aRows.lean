/-
  No cell of these rows narrows 'for every input' (looked for: loops, veiled, ifaces, maps, wideKeys, modest, calm, conditions, laid).
  DERIVED. THE GIVEN ROWS OF THIS SEAT. 2 by the template 'for every input the law returns true; each argument reads behind the call as it read before'; 0 by the template 'total and deterministic' (their statements: Qxb6627672aTotals.lean).
  GIVEN WITH THE SEED: the statements are not yours to turn. If you find one false, say at which input.
  Laid BY PROGRAM, IN A SANDBOX (cutbox-rows.mjs): the forced cells as the released guide's own fill.sh prints them over the translation acdb305410c8e41b… (all of the seat's roots in one cut). By AI agents, Wed Nov 11 2026. No macro, syntax, notation, axiom, sorry.
-/
import Derived.Test.Qxb6627672aChecked
import GoSem.Claim
import GoSem.ClaimJoined
import GoSem.ClaimMapViews
import Derived.JoinedTies
import Derived.KernelRfl
namespace Go.Proofs.Qxb6627672a
/- THE CELL 'sum', in the pinned program and in every row, IS THE sha256 OF THE DUMP (.gsa) THAT Qxb6627672aProg.lean LOADS. Nothing in Lean hashes anything: it is a label: what it is worth is what the hold of that sum in a sandbox is worth. -/
noncomputable def Try.pinned : Pinned := { name := "qxb6627672a", sum := "acdb305410c8e41bbc88f93f219997945f43658c5976cba6631591d11d67ad6f", checked := Try.checked }
namespace Rows
def none {H : Type} : Left H := { results := [], args := [] }

/-- 'zzlaws_internal_text_b1.FnNewAlarmsFlagDecidesKeeping': WHATEVER THE INPUT: true; the input reads as it did. -/
def fnNewAlarmsFlagDecidesKeepingSpec : ChangeSpec := { name := "fnNewAlarmsFlagDecidesKeeping", fn := fun _ => fun
  | [d] => { results := [.lit (.bool true)], args := [d] }
  | _ => none }
def fnNewAlarmsFlagDecidesKeepingRow : OpenClaim := { program := "qxb6627672a", sum := "acdb305410c8e41bbc88f93f219997945f43658c5976cba6631591d11d67ad6f", func := "example.com/bellwire/bellwire/zzlaws_internal_text_b1.FnNewAlarmsFlagDecidesKeeping", spec := "fnNewAlarmsFlagDecidesKeeping", plainKeys := false, apart := false }
def FnNewAlarmsFlagDecidesKeepingSaid : Prop := fnNewAlarmsFlagDecidesKeepingRow.holds Try.pinned (OpenSpec.ofChange fnNewAlarmsFlagDecidesKeepingSpec)

/-- ITS FALSE NEIGHBOUR: 'it returns false'. Refute it at one input. -/
def fnNewAlarmsFlagDecidesKeepingWrong : ChangeSpec := { name := "fnNewAlarmsFlagDecidesKeeping", fn := fun _ => fun
  | [d] => { results := [.lit (.bool false)], args := [d] }
  | _ => none }
def FnNewAlarmsFlagDecidesKeepingWrongFalsely : Prop := fnNewAlarmsFlagDecidesKeepingRow.holds Try.pinned (OpenSpec.ofChange fnNewAlarmsFlagDecidesKeepingWrong)

/-- 'zzlaws_internal_text_b1.FnNewAlarmsIndependentInstances': WHATEVER THE INPUT: true; the input reads as it did. -/
def fnNewAlarmsIndependentInstancesSpec : ChangeSpec := { name := "fnNewAlarmsIndependentInstances", fn := fun _ => fun
  | [d] => { results := [.lit (.bool true)], args := [d] }
  | _ => none }
def fnNewAlarmsIndependentInstancesRow : OpenClaim := { program := "qxb6627672a", sum := "acdb305410c8e41bbc88f93f219997945f43658c5976cba6631591d11d67ad6f", func := "example.com/bellwire/bellwire/zzlaws_internal_text_b1.FnNewAlarmsIndependentInstances", spec := "fnNewAlarmsIndependentInstances", plainKeys := false, apart := false }
def FnNewAlarmsIndependentInstancesSaid : Prop := fnNewAlarmsIndependentInstancesRow.holds Try.pinned (OpenSpec.ofChange fnNewAlarmsIndependentInstancesSpec)

/-- ITS FALSE NEIGHBOUR: 'it returns false'. Refute it at one input. -/
def fnNewAlarmsIndependentInstancesWrong : ChangeSpec := { name := "fnNewAlarmsIndependentInstances", fn := fun _ => fun
  | [d] => { results := [.lit (.bool false)], args := [d] }
  | _ => none }
def FnNewAlarmsIndependentInstancesWrongFalsely : Prop := fnNewAlarmsIndependentInstancesRow.holds Try.pinned (OpenSpec.ofChange fnNewAlarmsIndependentInstancesWrong)

end Rows
end Go.Proofs.Qxb6627672a
