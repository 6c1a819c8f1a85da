/-
  DERIVED. GIVEN WITH THE SEED: THE CARDS: each row of Qxb6627577aFmtRows.lean that lists a variable, with what it lists TIED to the program's text (the seventh form; the later family's looks); each row that meets fmt, with fmt's text TOLD by the authors' own Lean function (tested against real Go, not proved from fmt's source: count such statements apart). THE CARD IS WHAT COUNTS. Prove the row's statement (the work); the ties are given (Qxb6627577aFmtTie.lean); close each card by the builder's one call (the guide's Derived/Test/ToyasCard.lean, 'card_holds'). Laid BY PROGRAM, IN A SANDBOX (cutbox-door.mjs). By AI agents, Wed Nov 11 2026. No macro, syntax, notation, axiom, sorry.
-/
import Derived.Test.Qxb6627577aFmtRows
import GoSem.ClaimSeven
namespace Go.Proofs.Qxb6627577aFmt
namespace Rows

/-- THE TOLD CARD OF 'zzlaws_internal_tdx_b1.FnParseIgnoresTrailingBytes'. -/
def fnParseIgnoresTrailingBytesCard : Claim7 := { stood := { row := fnParseIgnoresTrailingBytesRow, standIns := [], harness := (true, "93d10bf2b7e6eb583537c471b8eb276722723c71440d7f51383280934cac4131"), looks := false }, told := true, goes := false }
def FnParseIgnoresTrailingBytesToldSaid : Prop := Claim7.holds Tryf.pinned (.plain (OpenSpec.ofChange fnParseIgnoresTrailingBytesSpec)) fnParseIgnoresTrailingBytesCard
/-- ITS FALSE NEIGHBOUR. Refute it at one input. -/
def FnParseIgnoresTrailingBytesToldWrongFalsely : Prop := Claim7.holds Tryf.pinned (.plain (OpenSpec.ofChange fnParseIgnoresTrailingBytesWrong)) fnParseIgnoresTrailingBytesCard
end Rows
end Go.Proofs.Qxb6627577aFmt
