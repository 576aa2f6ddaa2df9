/-
  DERIVED. GIVEN WITH THE SEED: THE CARDS: each row of YtmfbgoikekmdkaaGreatFmtRows.lean that lists a variable, with what it lists TIED to the program's text (the seventh form; the later family's looks); each row that meets fmt, with fmt's text TOLD by the authors' own Lean function (tested against real Go, not proved from fmt's source: count such statements apart). THE CARD IS WHAT COUNTS. Prove the row's statement (the work); the ties are given (YtmfbgoikekmdkaaGreatFmtTie.lean); close each card by the builder's one call (the guide's Derived/Test/ToyasCard.lean, 'card_holds'). Laid BY PROGRAM, IN A SANDBOX (cutbox-door.mjs). By AI agents, Wed Nov 11 2026. No macro, syntax, notation, axiom, sorry.
-/
import Derived.Test.YtmfbgoikekmdkaaGreatFmtRows
import GoSem.ClaimSeven
namespace Go.Proofs.YtmfbgoikekmdkaaGreatFmt
namespace Rows

/-- THE TOLD AND TIED CARD OF 'laws.FnQuoted'. -/
def fnQuotedCard : Claim7 := { stood := { row := fnQuotedRow, standIns := [], harness := (true, "544a2638c7ad2eda878b0f6a9d363faef1501c126455a3f98a2c962a6a6e29d5"), looks := true }, told := true, laidByText := true, laidKinds := [.data, .data, .widerDeep, .widerDeep, .data, .data, .data, .data, .data, .data, .sentinel, .sentinel, .data, .pinned, .pinned, .pinned], laidTests := true, laidLooks := .later, goes := false }
def FnQuotedToldSaid : Prop := Claim7.holds Tryz.pinned (.plain (OpenSpec.ofChange fnQuotedSpec)) fnQuotedCard
/-- ITS FALSE NEIGHBOUR. Refute it at one input. -/
def FnQuotedToldWrongFalsely : Prop := Claim7.holds Tryz.pinned (.plain (OpenSpec.ofChange fnQuotedWrong)) fnQuotedCard
end Rows
end Go.Proofs.YtmfbgoikekmdkaaGreatFmt
