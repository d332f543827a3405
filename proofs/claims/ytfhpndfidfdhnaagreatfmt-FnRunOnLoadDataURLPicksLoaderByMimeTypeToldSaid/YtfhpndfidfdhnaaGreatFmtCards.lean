/-
  DERIVED. GIVEN WITH THE SEED: THE CARDS: each row of YtfhpndfidfdhnaaGreatFmtRows.lean that lists a variable, with what it lists TIED to the program's text (the seventh form; the later family's looks); each row that meets fmt, with fmt's text TOLD by the authors' own Lean function (tested against real Go, not proved from fmt's source: count such statements apart). THE CARD IS WHAT COUNTS. Prove the row's statement (the work); the ties are given (YtfhpndfidfdhnaaGreatFmtTie.lean); close each card by the builder's one call (the guide's Derived/Test/ToyasCard.lean, 'card_holds'). Laid BY PROGRAM, IN A SANDBOX (cutbox-door.mjs). By AI agents, Wed Nov 11 2026. No macro, syntax, notation, axiom, sorry.
-/
import Derived.Test.YtfhpndfidfdhnaaGreatFmtRows
import GoSem.ClaimSeven
namespace Go.Proofs.YtfhpndfidfdhnaaGreatFmt
namespace Rows

/-- THE TOLD AND TIED CARD OF 'n011_193.FnRunOnLoadDataURLPicksLoaderByMimeType'. -/
def fnRunOnLoadDataURLPicksLoaderByMimeTypeCard : Claim7 := { stood := { row := fnRunOnLoadDataURLPicksLoaderByMimeTypeRow, standIns := [], harness := (true, "796ff63a13f3263804d873521645cf44d5dc06d878dfdcd06676bfe2740629ca"), looks := true }, told := true, laidByText := true, laidKinds := [.data, .data, .data, .data, .data, .pinned, .pinned], laidTests := true, laidLooks := .later, goes := false }
def FnRunOnLoadDataURLPicksLoaderByMimeTypeToldSaid : Prop := Claim7.holds Tryz.pinned (.plain (OpenSpec.ofChange fnRunOnLoadDataURLPicksLoaderByMimeTypeSpec)) fnRunOnLoadDataURLPicksLoaderByMimeTypeCard
/-- ITS FALSE NEIGHBOUR. Refute it at one input. -/
def FnRunOnLoadDataURLPicksLoaderByMimeTypeToldWrongFalsely : Prop := Claim7.holds Tryz.pinned (.plain (OpenSpec.ofChange fnRunOnLoadDataURLPicksLoaderByMimeTypeWrong)) fnRunOnLoadDataURLPicksLoaderByMimeTypeCard
end Rows
end Go.Proofs.YtfhpndfidfdhnaaGreatFmt
