/-
  DERIVED. GIVEN WITH THE SEED: THE CARDS: each row of Qxb6616522aFmtRows.lean that lists a variable, with what it lists TIED to the program's text (the seventh form; the later family's looks); each row that meets fmt, with fmt's text TOLD by the authors' own Lean function (tested against real Go, not proved from fmt's source: count such statements apart). THE CARD IS WHAT COUNTS. Prove the row's statement (the work); the ties are given (Qxb6616522aFmtTie.lean); close each card by the builder's one call (the guide's Derived/Test/ToyasCard.lean, 'card_holds'). Laid BY PROGRAM, IN A SANDBOX (cutbox-door.mjs). By AI agents, Wed Nov 11 2026. No macro, syntax, notation, axiom, sorry.
-/
import Derived.Test.Qxb6616522aFmtRows
import GoSem.ClaimSeven
namespace Go.Proofs.Qxb6616522aFmt
namespace Rows

/-- THE TOLD CARD OF 'zzlaws_graph_b1.FnEdgesCountsEachAddedEdgeOnce'. -/
def fnEdgesCountsEachAddedEdgeOnceCard : Claim7 := { stood := { row := fnEdgesCountsEachAddedEdgeOnceRow, standIns := [], harness := (true, "bc14a6c8faa50e5b2fdd018ea3bfcb770f27c43a75b617ff7a54f4de7bf53c19"), looks := false }, told := true, goes := false }
def FnEdgesCountsEachAddedEdgeOnceToldSaid : Prop := Claim7.holds Tryf.pinned (.plain (OpenSpec.ofChange fnEdgesCountsEachAddedEdgeOnceSpec)) fnEdgesCountsEachAddedEdgeOnceCard
/-- ITS FALSE NEIGHBOUR. Refute it at one input. -/
def FnEdgesCountsEachAddedEdgeOnceToldWrongFalsely : Prop := Claim7.holds Tryf.pinned (.plain (OpenSpec.ofChange fnEdgesCountsEachAddedEdgeOnceWrong)) fnEdgesCountsEachAddedEdgeOnceCard

/-- THE TOLD CARD OF 'zzlaws_graph_b1.FnRestrictKeepsOutEdgesOfKeptVertices'. -/
def fnRestrictKeepsOutEdgesOfKeptVerticesCard : Claim7 := { stood := { row := fnRestrictKeepsOutEdgesOfKeptVerticesRow, standIns := [], harness := (true, "bc14a6c8faa50e5b2fdd018ea3bfcb770f27c43a75b617ff7a54f4de7bf53c19"), looks := false }, told := true, goes := false }
def FnRestrictKeepsOutEdgesOfKeptVerticesToldSaid : Prop := Claim7.holds Tryf.pinned (.plain (OpenSpec.ofChange fnRestrictKeepsOutEdgesOfKeptVerticesSpec)) fnRestrictKeepsOutEdgesOfKeptVerticesCard
/-- ITS FALSE NEIGHBOUR. Refute it at one input. -/
def FnRestrictKeepsOutEdgesOfKeptVerticesToldWrongFalsely : Prop := Claim7.holds Tryf.pinned (.plain (OpenSpec.ofChange fnRestrictKeepsOutEdgesOfKeptVerticesWrong)) fnRestrictKeepsOutEdgesOfKeptVerticesCard

/-- THE TOLD CARD OF 'zzlaws_graph_b1.FnRestrictToKeepAndItsNegationSplitOutEdges'. -/
def fnRestrictToKeepAndItsNegationSplitOutEdgesCard : Claim7 := { stood := { row := fnRestrictToKeepAndItsNegationSplitOutEdgesRow, standIns := [], harness := (true, "bc14a6c8faa50e5b2fdd018ea3bfcb770f27c43a75b617ff7a54f4de7bf53c19"), looks := false }, told := true, goes := false }
def FnRestrictToKeepAndItsNegationSplitOutEdgesToldSaid : Prop := Claim7.holds Tryf.pinned (.plain (OpenSpec.ofChange fnRestrictToKeepAndItsNegationSplitOutEdgesSpec)) fnRestrictToKeepAndItsNegationSplitOutEdgesCard
/-- ITS FALSE NEIGHBOUR. Refute it at one input. -/
def FnRestrictToKeepAndItsNegationSplitOutEdgesToldWrongFalsely : Prop := Claim7.holds Tryf.pinned (.plain (OpenSpec.ofChange fnRestrictToKeepAndItsNegationSplitOutEdgesWrong)) fnRestrictToKeepAndItsNegationSplitOutEdgesCard
end Rows
end Go.Proofs.Qxb6616522aFmt
