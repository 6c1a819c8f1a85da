/-
  No cell of these rows narrows 'for every input' (looked for: loops, veiled, ifaces, maps, wideKeys, modest, calm, conditions, laid).
  DERIVED. THE GIVEN ROWS OF THIS SEAT. 2 by the template 'for every input the law returns true; each argument reads behind the call as it read before'; 0 by the template 'total and deterministic' (their statements: Qxb6627636aFmtTotals.lean).
  GIVEN WITH THE SEED: the statements are not yours to turn. If you find one false, say at which input.
  Laid BY PROGRAM, IN A SANDBOX (cutbox-rows.mjs): the forced cells as the released guide's own fill.sh prints them over the translation a58c700ad9f609ae… (all of the seat's roots in one cut). By AI agents, Wed Nov 11 2026. No macro, syntax, notation, axiom, sorry.
-/
import Derived.Test.Qxb6627636aFmtChecked
import GoSem.Claim
import GoSem.ClaimJoined
import GoSem.ClaimMapViews
import Derived.JoinedTies
import Derived.KernelRfl
namespace Go.Proofs.Qxb6627636aFmt
/- THE CELL 'sum', in the pinned program and in every row, IS THE sha256 OF THE DUMP (.gsa) THAT Qxb6627636aFmtProg.lean LOADS. Nothing in Lean hashes anything: it is a label: what it is worth is what the hold of that sum in a sandbox is worth. -/
noncomputable def Tryf.pinned : Pinned := { name := "qxb6627636afmt", sum := "a58c700ad9f609ae5281b0dcc79a05791b5ddec92a3843bb41995555fdf6b9af", checked := Tryf.checked }
namespace Rows
def none {H : Type} : Left H := { results := [], args := [] }

/-- 'zzlaws_protocol_b1.FnCheckNameSplitAtAnyCut': WHATEVER THE INPUT: true; the input reads as it did. -/
def fnCheckNameSplitAtAnyCutSpec : ChangeSpec := { name := "fnCheckNameSplitAtAnyCut", fn := fun _ => fun
  | [d1, d2] => { results := [.lit (.bool true)], args := [d1, d2] }
  | _ => none }
def fnCheckNameSplitAtAnyCutRow : OpenClaim := { program := "qxb6627636afmt", sum := "a58c700ad9f609ae5281b0dcc79a05791b5ddec92a3843bb41995555fdf6b9af", func := "example.com/ledgerline/ledgerline/zzlaws_protocol_b1.FnCheckNameSplitAtAnyCut", spec := "fnCheckNameSplitAtAnyCut", stops := ["fmt.errorf"], inPlace := ["fmt.errorf"], apart := false }
/-- NO THEOREM (fmt's text is open here; it may be false): for the released tool's asking of the row's closed facts alone. THE STATEMENT IS 'FnCheckNameSplitAtAnyCutToldSaid' (Qxb6627636aFmtCards.lean). -/
def FnCheckNameSplitAtAnyCutFormAsk : Prop := fnCheckNameSplitAtAnyCutRow.holds Tryf.pinned (OpenSpec.ofChange fnCheckNameSplitAtAnyCutSpec)

/-- ITS FALSE NEIGHBOUR: 'it returns false'. Refute it at one input. -/
def fnCheckNameSplitAtAnyCutWrong : ChangeSpec := { name := "fnCheckNameSplitAtAnyCut", fn := fun _ => fun
  | [d1, d2] => { results := [.lit (.bool false)], args := [d1, d2] }
  | _ => none }
def FnCheckNameSplitAtAnyCutWrongFormAsk : Prop := fnCheckNameSplitAtAnyCutRow.holds Tryf.pinned (OpenSpec.ofChange fnCheckNameSplitAtAnyCutWrong)

/-- 'zzlaws_protocol_b1.FnCheckNamePositionClasses': WHATEVER THE INPUT: true; the input reads as it did. -/
def fnCheckNamePositionClassesSpec : ChangeSpec := { name := "fnCheckNamePositionClasses", fn := fun _ => fun
  | [d1, d2] => { results := [.lit (.bool true)], args := [d1, d2] }
  | _ => none }
def fnCheckNamePositionClassesRow : OpenClaim := { program := "qxb6627636afmt", sum := "a58c700ad9f609ae5281b0dcc79a05791b5ddec92a3843bb41995555fdf6b9af", func := "example.com/ledgerline/ledgerline/zzlaws_protocol_b1.FnCheckNamePositionClasses", spec := "fnCheckNamePositionClasses", stops := ["fmt.errorf"], inPlace := ["fmt.errorf"], apart := false }
/-- NO THEOREM (fmt's text is open here; it may be false): for the released tool's asking of the row's closed facts alone. THE STATEMENT IS 'FnCheckNamePositionClassesToldSaid' (Qxb6627636aFmtCards.lean). -/
def FnCheckNamePositionClassesFormAsk : Prop := fnCheckNamePositionClassesRow.holds Tryf.pinned (OpenSpec.ofChange fnCheckNamePositionClassesSpec)

/-- ITS FALSE NEIGHBOUR: 'it returns false'. Refute it at one input. -/
def fnCheckNamePositionClassesWrong : ChangeSpec := { name := "fnCheckNamePositionClasses", fn := fun _ => fun
  | [d1, d2] => { results := [.lit (.bool false)], args := [d1, d2] }
  | _ => none }
def FnCheckNamePositionClassesWrongFormAsk : Prop := fnCheckNamePositionClassesRow.holds Tryf.pinned (OpenSpec.ofChange fnCheckNamePositionClassesWrong)

end Rows
end Go.Proofs.Qxb6627636aFmt
