/-
  No cell of these rows narrows 'for every input' (looked for: loops, veiled, ifaces, maps, wideKeys, modest, calm, conditions, laid).
  DERIVED. THE GIVEN ROWS OF THIS SEAT. 2 by the template 'for every input the law returns true; each argument reads behind the call as it read before'; 0 by the template 'total and deterministic' (their statements: Qxb6619044aTotals.lean).
  GIVEN WITH THE SEED: the statements are not yours to turn. If you find one false, say at which input.
  Laid BY PROGRAM, IN A SANDBOX (cutbox-rows.mjs): the forced cells as the released guide's own fill.sh prints them over the translation c9aa62e0663c858e… (all of the seat's roots in one cut). By AI agents, Wed Nov 11 2026. No macro, syntax, notation, axiom, sorry.
-/
import Derived.Test.Qxb6619044aChecked
import GoSem.Claim
import GoSem.ClaimJoined
import GoSem.ClaimMapViews
import Derived.JoinedTies
import Derived.KernelRfl
namespace Go.Proofs.Qxb6619044a
/- THE CELL 'sum', in the pinned program and in every row, IS THE sha256 OF THE DUMP (.gsa) THAT Qxb6619044aProg.lean LOADS. Nothing in Lean hashes anything: it is a label: what it is worth is what the hold of that sum in a sandbox is worth. -/
noncomputable def Try.pinned : Pinned := { name := "qxb6619044a", sum := "c9aa62e0663c858e8061d3a7b1460bbecc71ed9c63f2271a8aa99d7255553d01", checked := Try.checked }
namespace Rows
def none {H : Type} : Left H := { results := [], args := [] }

/-- 'zzlaws_internal_book_b1.FnFigureSignTimesMagnitudeIsCoefficient': WHATEVER THE INPUT: true; the input reads as it did. -/
def fnFigureSignTimesMagnitudeIsCoefficientSpec : ChangeSpec := { name := "fnFigureSignTimesMagnitudeIsCoefficient", fn := fun _ => fun
  | [d1, d2] => { results := [.lit (.bool true)], args := [d1, d2] }
  | _ => none }
def fnFigureSignTimesMagnitudeIsCoefficientRow : OpenClaim := { program := "qxb6619044a", sum := "c9aa62e0663c858e8061d3a7b1460bbecc71ed9c63f2271a8aa99d7255553d01", func := "example.com/tuoguan/tuoguan/zzlaws_internal_book_b1.FnFigureSignTimesMagnitudeIsCoefficient", spec := "fnFigureSignTimesMagnitudeIsCoefficient", apart := false }
def FnFigureSignTimesMagnitudeIsCoefficientSaid : Prop := fnFigureSignTimesMagnitudeIsCoefficientRow.holds Try.pinned (OpenSpec.ofChange fnFigureSignTimesMagnitudeIsCoefficientSpec)

/-- ITS FALSE NEIGHBOUR: 'it returns false'. Refute it at one input. -/
def fnFigureSignTimesMagnitudeIsCoefficientWrong : ChangeSpec := { name := "fnFigureSignTimesMagnitudeIsCoefficient", fn := fun _ => fun
  | [d1, d2] => { results := [.lit (.bool false)], args := [d1, d2] }
  | _ => none }
def FnFigureSignTimesMagnitudeIsCoefficientWrongFalsely : Prop := fnFigureSignTimesMagnitudeIsCoefficientRow.holds Try.pinned (OpenSpec.ofChange fnFigureSignTimesMagnitudeIsCoefficientWrong)

/-- 'zzlaws_internal_book_b1.FnSignOfSignedFigureIsItsFlag': WHATEVER THE INPUT: true; the input reads as it did. -/
def fnSignOfSignedFigureIsItsFlagSpec : ChangeSpec := { name := "fnSignOfSignedFigureIsItsFlag", fn := fun _ => fun
  | [d1, d2, d3] => { results := [.lit (.bool true)], args := [d1, d2, d3] }
  | _ => none }
def fnSignOfSignedFigureIsItsFlagRow : OpenClaim := { program := "qxb6619044a", sum := "c9aa62e0663c858e8061d3a7b1460bbecc71ed9c63f2271a8aa99d7255553d01", func := "example.com/tuoguan/tuoguan/zzlaws_internal_book_b1.FnSignOfSignedFigureIsItsFlag", spec := "fnSignOfSignedFigureIsItsFlag", apart := false }
def FnSignOfSignedFigureIsItsFlagSaid : Prop := fnSignOfSignedFigureIsItsFlagRow.holds Try.pinned (OpenSpec.ofChange fnSignOfSignedFigureIsItsFlagSpec)

/-- ITS FALSE NEIGHBOUR: 'it returns false'. Refute it at one input. -/
def fnSignOfSignedFigureIsItsFlagWrong : ChangeSpec := { name := "fnSignOfSignedFigureIsItsFlag", fn := fun _ => fun
  | [d1, d2, d3] => { results := [.lit (.bool false)], args := [d1, d2, d3] }
  | _ => none }
def FnSignOfSignedFigureIsItsFlagWrongFalsely : Prop := fnSignOfSignedFigureIsItsFlagRow.holds Try.pinned (OpenSpec.ofChange fnSignOfSignedFigureIsItsFlagWrong)

end Rows
end Go.Proofs.Qxb6619044a
