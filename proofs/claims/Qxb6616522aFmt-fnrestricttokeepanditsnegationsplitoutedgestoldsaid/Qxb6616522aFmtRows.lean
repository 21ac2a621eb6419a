/-
  No cell of these rows narrows 'for every input' (looked for: loops, veiled, ifaces, maps, wideKeys, modest, calm, conditions, laid).
  DERIVED. THE GIVEN ROWS OF THIS SEAT. 3 by the template 'for every input the law returns true; each argument reads behind the call as it read before'; 0 by the template 'total and deterministic' (their statements: Qxb6616522aFmtTotals.lean).
  GIVEN WITH THE SEED: the statements are not yours to turn. If you find one false, say at which input.
  Laid BY PROGRAM, IN A SANDBOX (cutbox-rows.mjs): the forced cells as the released guide's own fill.sh prints them over the translation c300b84ec1ffa2cf… (all of the seat's roots in one cut). By AI agents, Wed Nov 11 2026. No macro, syntax, notation, axiom, sorry.
-/
import Derived.Test.Qxb6616522aFmtChecked
import GoSem.Claim
import GoSem.ClaimJoined
import GoSem.ClaimMapViews
import Derived.JoinedTies
import Derived.KernelRfl
namespace Go.Proofs.Qxb6616522aFmt
/- THE CELL 'sum', in the pinned program and in every row, IS THE sha256 OF THE DUMP (.gsa) THAT Qxb6616522aFmtProg.lean LOADS. Nothing in Lean hashes anything: it is a label: what it is worth is what the hold of that sum in a sandbox is worth. -/
noncomputable def Tryf.pinned : Pinned := { name := "qxb6616522afmt", sum := "c300b84ec1ffa2cf65ffe83247748d58c26bb3e64a7b90c1358baf8be31afed2", checked := Tryf.checked }
namespace Rows
def none {H : Type} : Left H := { results := [], args := [] }

/-- 'zzlaws_graph_b1.FnEdgesCountsEachAddedEdgeOnce': WHATEVER THE INPUT: true; the input reads as it did. -/
def fnEdgesCountsEachAddedEdgeOnceSpec : ChangeSpec := { name := "fnEdgesCountsEachAddedEdgeOnce", fn := fun _ => fun
  | [d1, d2] => { results := [.lit (.bool true)], args := [d1, d2] }
  | _ => none }
def fnEdgesCountsEachAddedEdgeOnceRow : OpenClaim := { program := "qxb6616522afmt", sum := "c300b84ec1ffa2cf65ffe83247748d58c26bb3e64a7b90c1358baf8be31afed2", func := "example.com/bulkwave/bulkwave/zzlaws_graph_b1.FnEdgesCountsEachAddedEdgeOnce", spec := "fnEdgesCountsEachAddedEdgeOnce", stops := ["fmt.Sprintf"], inPlace := ["fmt.Sprintf"], recurses := true, apart := false }
/-- NO THEOREM (fmt's text is open here; it may be false): for the released tool's asking of the row's closed facts alone. THE STATEMENT IS 'FnEdgesCountsEachAddedEdgeOnceToldSaid' (Qxb6616522aFmtCards.lean). -/
def FnEdgesCountsEachAddedEdgeOnceFormAsk : Prop := fnEdgesCountsEachAddedEdgeOnceRow.holds Tryf.pinned (OpenSpec.ofChange fnEdgesCountsEachAddedEdgeOnceSpec)

/-- ITS FALSE NEIGHBOUR: 'it returns false'. Refute it at one input. -/
def fnEdgesCountsEachAddedEdgeOnceWrong : ChangeSpec := { name := "fnEdgesCountsEachAddedEdgeOnce", fn := fun _ => fun
  | [d1, d2] => { results := [.lit (.bool false)], args := [d1, d2] }
  | _ => none }
def FnEdgesCountsEachAddedEdgeOnceWrongFormAsk : Prop := fnEdgesCountsEachAddedEdgeOnceRow.holds Tryf.pinned (OpenSpec.ofChange fnEdgesCountsEachAddedEdgeOnceWrong)

/-- 'zzlaws_graph_b1.FnRestrictKeepsOutEdgesOfKeptVertices': WHATEVER THE INPUT: true; the input reads as it did. -/
def fnRestrictKeepsOutEdgesOfKeptVerticesSpec : ChangeSpec := { name := "fnRestrictKeepsOutEdgesOfKeptVertices", fn := fun _ => fun
  | [d1, d2, d3] => { results := [.lit (.bool true)], args := [d1, d2, d3] }
  | _ => none }
def fnRestrictKeepsOutEdgesOfKeptVerticesRow : OpenClaim := { program := "qxb6616522afmt", sum := "c300b84ec1ffa2cf65ffe83247748d58c26bb3e64a7b90c1358baf8be31afed2", func := "example.com/bulkwave/bulkwave/zzlaws_graph_b1.FnRestrictKeepsOutEdgesOfKeptVertices", spec := "fnRestrictKeepsOutEdgesOfKeptVertices", stops := ["fmt.Sprintf"], inPlace := ["fmt.Sprintf"], unfollowed := true, recurses := true, apart := false }
/-- NO THEOREM (fmt's text is open here; it may be false): for the released tool's asking of the row's closed facts alone. THE STATEMENT IS 'FnRestrictKeepsOutEdgesOfKeptVerticesToldSaid' (Qxb6616522aFmtCards.lean). -/
def FnRestrictKeepsOutEdgesOfKeptVerticesFormAsk : Prop := fnRestrictKeepsOutEdgesOfKeptVerticesRow.holds Tryf.pinned (OpenSpec.ofChange fnRestrictKeepsOutEdgesOfKeptVerticesSpec)

/-- ITS FALSE NEIGHBOUR: 'it returns false'. Refute it at one input. -/
def fnRestrictKeepsOutEdgesOfKeptVerticesWrong : ChangeSpec := { name := "fnRestrictKeepsOutEdgesOfKeptVertices", fn := fun _ => fun
  | [d1, d2, d3] => { results := [.lit (.bool false)], args := [d1, d2, d3] }
  | _ => none }
def FnRestrictKeepsOutEdgesOfKeptVerticesWrongFormAsk : Prop := fnRestrictKeepsOutEdgesOfKeptVerticesRow.holds Tryf.pinned (OpenSpec.ofChange fnRestrictKeepsOutEdgesOfKeptVerticesWrong)

/-- 'zzlaws_graph_b1.FnRestrictToKeepAndItsNegationSplitOutEdges': WHATEVER THE INPUT: true; the input reads as it did. -/
def fnRestrictToKeepAndItsNegationSplitOutEdgesSpec : ChangeSpec := { name := "fnRestrictToKeepAndItsNegationSplitOutEdges", fn := fun _ => fun
  | [d1, d2, d3] => { results := [.lit (.bool true)], args := [d1, d2, d3] }
  | _ => none }
def fnRestrictToKeepAndItsNegationSplitOutEdgesRow : OpenClaim := { program := "qxb6616522afmt", sum := "c300b84ec1ffa2cf65ffe83247748d58c26bb3e64a7b90c1358baf8be31afed2", func := "example.com/bulkwave/bulkwave/zzlaws_graph_b1.FnRestrictToKeepAndItsNegationSplitOutEdges", spec := "fnRestrictToKeepAndItsNegationSplitOutEdges", stops := ["fmt.Sprintf"], inPlace := ["fmt.Sprintf"], unfollowed := true, recurses := true, apart := false }
/-- NO THEOREM (fmt's text is open here; it may be false): for the released tool's asking of the row's closed facts alone. THE STATEMENT IS 'FnRestrictToKeepAndItsNegationSplitOutEdgesToldSaid' (Qxb6616522aFmtCards.lean). -/
def FnRestrictToKeepAndItsNegationSplitOutEdgesFormAsk : Prop := fnRestrictToKeepAndItsNegationSplitOutEdgesRow.holds Tryf.pinned (OpenSpec.ofChange fnRestrictToKeepAndItsNegationSplitOutEdgesSpec)

/-- ITS FALSE NEIGHBOUR: 'it returns false'. Refute it at one input. -/
def fnRestrictToKeepAndItsNegationSplitOutEdgesWrong : ChangeSpec := { name := "fnRestrictToKeepAndItsNegationSplitOutEdges", fn := fun _ => fun
  | [d1, d2, d3] => { results := [.lit (.bool false)], args := [d1, d2, d3] }
  | _ => none }
def FnRestrictToKeepAndItsNegationSplitOutEdgesWrongFormAsk : Prop := fnRestrictToKeepAndItsNegationSplitOutEdgesRow.holds Tryf.pinned (OpenSpec.ofChange fnRestrictToKeepAndItsNegationSplitOutEdgesWrong)

end Rows
end Go.Proofs.Qxb6616522aFmt
