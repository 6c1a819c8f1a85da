/-
  No cell of these rows narrows 'for every input' (looked for: loops, veiled, ifaces, maps, wideKeys, modest, calm, conditions, laid).
  DERIVED. THE GIVEN ROWS OF THIS SEAT. 1 by the template 'for every input the law returns true; each argument reads behind the call as it read before'; 0 by the template 'total and deterministic' (their statements: Qxb6627577aFmtTotals.lean).
  GIVEN WITH THE SEED: the statements are not yours to turn. If you find one false, say at which input.
  Laid BY PROGRAM, IN A SANDBOX (cutbox-rows.mjs): the forced cells as the released guide's own fill.sh prints them over the translation 66a6bddeeb6bf6b0… (all of the seat's roots in one cut). By AI agents, Wed Nov 11 2026. No macro, syntax, notation, axiom, sorry.
-/
import Derived.Test.Qxb6627577aFmtChecked
import GoSem.Claim
import GoSem.ClaimJoined
import GoSem.ClaimMapViews
import Derived.JoinedTies
import Derived.KernelRfl
namespace Go.Proofs.Qxb6627577aFmt
/- THE CELL 'sum', in the pinned program and in every row, IS THE sha256 OF THE DUMP (.gsa) THAT Qxb6627577aFmtProg.lean LOADS. Nothing in Lean hashes anything: it is a label: what it is worth is what the hold of that sum in a sandbox is worth. -/
noncomputable def Tryf.pinned : Pinned := { name := "qxb6627577afmt", sum := "66a6bddeeb6bf6b0043bbc25c880642915965c43a185f98c0511b62009aa6dfa", checked := Tryf.checked }
namespace Rows
def none {H : Type} : Left H := { results := [], args := [] }

/-- 'zzlaws_internal_tdx_b1.FnParseIgnoresTrailingBytes': WHATEVER THE INPUT: true; the input reads as it did. -/
def fnParseIgnoresTrailingBytesSpec : ChangeSpec := { name := "fnParseIgnoresTrailingBytes", fn := fun _ => fun
  | [d1, d2] => { results := [.lit (.bool true)], args := [d1, d2] }
  | _ => none }
def fnParseIgnoresTrailingBytesRow : OpenClaim := { program := "qxb6627577afmt", sum := "66a6bddeeb6bf6b0043bbc25c880642915965c43a185f98c0511b62009aa6dfa", func := "example.com/styx/styx/zzlaws_internal_tdx_b1.FnParseIgnoresTrailingBytes", spec := "fnParseIgnoresTrailingBytes", stops := ["fmt.errorf"], inPlace := ["fmt.errorf"], named := ["encoding/binary.LittleEndian"], apart := false }
/-- NO THEOREM (fmt's text is open here; it may be false): for the released tool's asking of the row's closed facts alone. THE STATEMENT IS 'FnParseIgnoresTrailingBytesToldSaid' (Qxb6627577aFmtCards.lean). -/
def FnParseIgnoresTrailingBytesFormAsk : Prop := fnParseIgnoresTrailingBytesRow.holds Tryf.pinned (OpenSpec.ofChange fnParseIgnoresTrailingBytesSpec)

/-- ITS FALSE NEIGHBOUR: 'it returns false'. Refute it at one input. -/
def fnParseIgnoresTrailingBytesWrong : ChangeSpec := { name := "fnParseIgnoresTrailingBytes", fn := fun _ => fun
  | [d1, d2] => { results := [.lit (.bool false)], args := [d1, d2] }
  | _ => none }
def FnParseIgnoresTrailingBytesWrongFormAsk : Prop := fnParseIgnoresTrailingBytesRow.holds Tryf.pinned (OpenSpec.ofChange fnParseIgnoresTrailingBytesWrong)

end Rows
end Go.Proofs.Qxb6627577aFmt
