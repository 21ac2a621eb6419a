/-
  DERIVED. GIVEN WITH THE SEED: THE CARDS: each row of Qxb6617168aFmtRows.lean that lists a variable, with what it lists TIED to the program's text (the seventh form; the later family's looks); each row that meets fmt, with fmt's text TOLD by the authors' own Lean function (tested against real Go, not proved from fmt's source: count such statements apart). THE CARD IS WHAT COUNTS. Prove the row's statement (the work); the ties are given (Qxb6617168aFmtTie.lean); close each card by the builder's one call (the guide's Derived/Test/ToyasCard.lean, 'card_holds'). Laid BY PROGRAM, IN A SANDBOX (cutbox-door.mjs). By AI agents, Wed Nov 11 2026. No macro, syntax, notation, axiom, sorry.
-/
import Derived.Test.Qxb6617168aFmtRows
import GoSem.ClaimSeven
namespace Go.Proofs.Qxb6617168aFmt
namespace Rows

/-- THE TOLD CARD OF 'zzlaws_consensus_b1.FnRangeContainsIsHalfOpenInterval'. -/
def fnRangeContainsIsHalfOpenIntervalCard : Claim7 := { stood := { row := fnRangeContainsIsHalfOpenIntervalRow, standIns := [], harness := (true, "c6088e1e42fdd2a093ff86eea1b18c1cd84b33f47220f7f0320ed94170a9bdc5"), looks := false }, told := true, goes := false }
def FnRangeContainsIsHalfOpenIntervalToldSaid : Prop := Claim7.holds Tryf.pinned (.plain (OpenSpec.ofChange fnRangeContainsIsHalfOpenIntervalSpec)) fnRangeContainsIsHalfOpenIntervalCard
/-- ITS FALSE NEIGHBOUR. Refute it at one input. -/
def FnRangeContainsIsHalfOpenIntervalToldWrongFalsely : Prop := Claim7.holds Tryf.pinned (.plain (OpenSpec.ofChange fnRangeContainsIsHalfOpenIntervalWrong)) fnRangeContainsIsHalfOpenIntervalCard

/-- THE TOLD AND TIED CARD OF 'zzlaws_consensus_b1.FnRangeStringNamesExactlyItsRun'. -/
def fnRangeStringNamesExactlyItsRunCard : Claim7 := { stood := { row := fnRangeStringNamesExactlyItsRunRow, standIns := [], harness := (true, "c6088e1e42fdd2a093ff86eea1b18c1cd84b33f47220f7f0320ed94170a9bdc5"), looks := false }, told := true, laidByText := true, laidKinds := [.data, .data, .data], laidTests := true, laidLooks := .later, goes := false }
def FnRangeStringNamesExactlyItsRunToldSaid : Prop := Claim7.holds Tryf.pinned (.plain (OpenSpec.ofChange fnRangeStringNamesExactlyItsRunSpec)) fnRangeStringNamesExactlyItsRunCard
/-- ITS FALSE NEIGHBOUR. Refute it at one input. -/
def FnRangeStringNamesExactlyItsRunToldWrongFalsely : Prop := Claim7.holds Tryf.pinned (.plain (OpenSpec.ofChange fnRangeStringNamesExactlyItsRunWrong)) fnRangeStringNamesExactlyItsRunCard
end Rows
end Go.Proofs.Qxb6617168aFmt
