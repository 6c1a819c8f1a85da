/-
  DERIVED. GIVEN WITH THE SEED: THE CARDS: each row of Qxb6627636aFmtRows.lean that lists a variable, with what it lists TIED to the program's text (the seventh form; the later family's looks); each row that meets fmt, with fmt's text TOLD by the authors' own Lean function (tested against real Go, not proved from fmt's source: count such statements apart). THE CARD IS WHAT COUNTS. Prove the row's statement (the work); the ties are given (Qxb6627636aFmtTie.lean); close each card by the builder's one call (the guide's Derived/Test/ToyasCard.lean, 'card_holds'). Laid BY PROGRAM, IN A SANDBOX (cutbox-door.mjs). By AI agents, Wed Nov 11 2026. No macro, syntax, notation, axiom, sorry.
-/
import Derived.Test.Qxb6627636aFmtRows
import GoSem.ClaimSeven
namespace Go.Proofs.Qxb6627636aFmt
namespace Rows

/-- THE TOLD CARD OF 'zzlaws_protocol_b1.FnCheckNameSplitAtAnyCut'. -/
def fnCheckNameSplitAtAnyCutCard : Claim7 := { stood := { row := fnCheckNameSplitAtAnyCutRow, standIns := [], harness := (true, "73b01f3c75a297f9aba1ace33352568f0107af7b152c617f6e8762a0ba8dcff0"), looks := false }, told := true, goes := false }
def FnCheckNameSplitAtAnyCutToldSaid : Prop := Claim7.holds Tryf.pinned (.plain (OpenSpec.ofChange fnCheckNameSplitAtAnyCutSpec)) fnCheckNameSplitAtAnyCutCard
/-- ITS FALSE NEIGHBOUR. Refute it at one input. -/
def FnCheckNameSplitAtAnyCutToldWrongFalsely : Prop := Claim7.holds Tryf.pinned (.plain (OpenSpec.ofChange fnCheckNameSplitAtAnyCutWrong)) fnCheckNameSplitAtAnyCutCard

/-- THE TOLD CARD OF 'zzlaws_protocol_b1.FnCheckNamePositionClasses'. -/
def fnCheckNamePositionClassesCard : Claim7 := { stood := { row := fnCheckNamePositionClassesRow, standIns := [], harness := (true, "73b01f3c75a297f9aba1ace33352568f0107af7b152c617f6e8762a0ba8dcff0"), looks := false }, told := true, goes := false }
def FnCheckNamePositionClassesToldSaid : Prop := Claim7.holds Tryf.pinned (.plain (OpenSpec.ofChange fnCheckNamePositionClassesSpec)) fnCheckNamePositionClassesCard
/-- ITS FALSE NEIGHBOUR. Refute it at one input. -/
def FnCheckNamePositionClassesToldWrongFalsely : Prop := Claim7.holds Tryf.pinned (.plain (OpenSpec.ofChange fnCheckNamePositionClassesWrong)) fnCheckNamePositionClassesCard
end Rows
end Go.Proofs.Qxb6627636aFmt
