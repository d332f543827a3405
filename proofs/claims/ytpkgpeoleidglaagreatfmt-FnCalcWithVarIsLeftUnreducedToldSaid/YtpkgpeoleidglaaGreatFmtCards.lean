/-
  DERIVED. GIVEN WITH THE SEED: THE CARDS: each row of YtpkgpeoleidglaaGreatFmtRows.lean that lists a variable, with what it lists TIED to the program's text (the seventh form; the later family's looks); each row that meets fmt, with fmt's text TOLD by the authors' own Lean function (tested against real Go, not proved from fmt's source: count such statements apart). THE CARD IS WHAT COUNTS. Prove the row's statement (the work); the ties are given (YtpkgpeoleidglaaGreatFmtTie.lean); close each card by the builder's one call (the guide's Derived/Test/ToyasCard.lean, 'card_holds'). Laid BY PROGRAM, IN A SANDBOX (cutbox-door.mjs). By AI agents, Wed Nov 11 2026. No macro, syntax, notation, axiom, sorry.
-/
import Derived.Test.YtpkgpeoleidglaaGreatFmtRows
import GoSem.ClaimSeven
namespace Go.Proofs.YtpkgpeoleidglaaGreatFmt
namespace Rows

/-- THE TOLD AND TIED CARD OF 'n011_183.FnCalcWithVarIsLeftUnreduced'. -/
def fnCalcWithVarIsLeftUnreducedCard : Claim7 := { stood := { row := fnCalcWithVarIsLeftUnreducedRow, standIns := [], harness := (true, "5154aede8327e9ee253c526fc6690a5d6619196722e9efe8db4d7595ec2550ac"), looks := true }, told := true, laidByText := true, laidKinds := [.data, .data, .widerDeep, .widerDeep, .data, .data, .data, .data, .data, .data, .sentinel, .sentinel, .data, .data, .pinned, .pinned, .pinned, .pinned], laidTests := true, laidLooks := .later, goes := false }
def FnCalcWithVarIsLeftUnreducedToldSaid : Prop := Claim7.holds Tryz.pinned (.plain (OpenSpec.ofChange fnCalcWithVarIsLeftUnreducedSpec)) fnCalcWithVarIsLeftUnreducedCard
/-- ITS FALSE NEIGHBOUR. Refute it at one input. -/
def FnCalcWithVarIsLeftUnreducedToldWrongFalsely : Prop := Claim7.holds Tryz.pinned (.plain (OpenSpec.ofChange fnCalcWithVarIsLeftUnreducedWrong)) fnCalcWithVarIsLeftUnreducedCard

/-- THE TOLD AND TIED CARD OF 'n011_183.FnCalcOfIntegerChainFoldsToItsSum'. -/
def fnCalcOfIntegerChainFoldsToItsSumCard : Claim7 := { stood := { row := fnCalcOfIntegerChainFoldsToItsSumRow, standIns := [], harness := (true, "5154aede8327e9ee253c526fc6690a5d6619196722e9efe8db4d7595ec2550ac"), looks := true }, told := true, laidByText := true, laidKinds := [.data, .data, .widerDeep, .widerDeep, .data, .data, .data, .data, .data, .data, .sentinel, .sentinel, .data, .data, .pinned, .pinned, .pinned, .pinned], laidTests := true, laidLooks := .later, goes := false }
def FnCalcOfIntegerChainFoldsToItsSumToldSaid : Prop := Claim7.holds Tryz.pinned (.plain (OpenSpec.ofChange fnCalcOfIntegerChainFoldsToItsSumSpec)) fnCalcOfIntegerChainFoldsToItsSumCard
/-- ITS FALSE NEIGHBOUR. Refute it at one input. -/
def FnCalcOfIntegerChainFoldsToItsSumToldWrongFalsely : Prop := Claim7.holds Tryz.pinned (.plain (OpenSpec.ofChange fnCalcOfIntegerChainFoldsToItsSumWrong)) fnCalcOfIntegerChainFoldsToItsSumCard
end Rows
end Go.Proofs.YtpkgpeoleidglaaGreatFmt
