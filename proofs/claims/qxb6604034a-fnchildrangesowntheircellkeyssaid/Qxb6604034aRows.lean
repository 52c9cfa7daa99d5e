/-
  No cell of these rows narrows 'for every input' (looked for: loops, veiled, ifaces, maps, wideKeys, modest, calm, conditions, laid).
  DERIVED. THE GIVEN ROWS OF THIS SEAT. 2 by the template 'for every input the law returns true; each argument reads behind the call as it read before'; 0 by the template 'total and deterministic' (their statements: Qxb6604034aTotals.lean).
  GIVEN WITH THE SEED: the statements are not yours to turn. If you find one false, say at which input.
  Laid BY PROGRAM, IN A SANDBOX (cutbox-rows.mjs): the forced cells as the released guide's own fill.sh prints them over the translation 0789442f8a392a52… (all of the seat's roots in one cut). By AI agents, Wed Nov 11 2026. No macro, syntax, notation, axiom, sorry.
-/
import Derived.Test.Qxb6604034aChecked
import GoSem.Claim
import GoSem.ClaimJoined
import GoSem.ClaimMapViews
import Derived.JoinedTies
import Derived.KernelRfl
namespace Go.Proofs.Qxb6604034a
/- THE CELL 'sum', in the pinned program and in every row, IS THE sha256 OF THE DUMP (.gsa) THAT Qxb6604034aProg.lean LOADS. Nothing in Lean hashes anything: it is a label: what it is worth is what the hold of that sum in a sandbox is worth. -/
noncomputable def Try.pinned : Pinned := { name := "qxb6604034a", sum := "0789442f8a392a52838fd42737efd41e5f019fafce644afec6df35d06ec59be4", checked := Try.checked }
namespace Rows
def none {H : Type} : Left H := { results := [], args := [] }

/-- 'zzlaws_root_b1.FnChildRangesOwnTheirCellKeys': WHATEVER THE INPUT: true; the input reads as it did. -/
def fnChildRangesOwnTheirCellKeysSpec : ChangeSpec := { name := "fnChildRangesOwnTheirCellKeys", fn := fun _ => fun
  | [d1, d2, d3, d4, d5, d6] => { results := [.lit (.bool true)], args := [d1, d2, d3, d4, d5, d6] }
  | _ => none }
def fnChildRangesOwnTheirCellKeysRow : OpenClaim := { program := "qxb6604034a", sum := "0789442f8a392a52838fd42737efd41e5f019fafce644afec6df35d06ec59be4", func := "example.com/pagewright/pagewright/zzlaws_root_b1.FnChildRangesOwnTheirCellKeys", spec := "fnChildRangesOwnTheirCellKeys", apart := false }
def FnChildRangesOwnTheirCellKeysSaid : Prop := fnChildRangesOwnTheirCellKeysRow.holds Try.pinned (OpenSpec.ofChange fnChildRangesOwnTheirCellKeysSpec)

/-- ITS FALSE NEIGHBOUR: 'it returns false'. Refute it at one input. -/
def fnChildRangesOwnTheirCellKeysWrong : ChangeSpec := { name := "fnChildRangesOwnTheirCellKeys", fn := fun _ => fun
  | [d1, d2, d3, d4, d5, d6] => { results := [.lit (.bool false)], args := [d1, d2, d3, d4, d5, d6] }
  | _ => none }
def FnChildRangesOwnTheirCellKeysWrongFalsely : Prop := fnChildRangesOwnTheirCellKeysRow.holds Try.pinned (OpenSpec.ofChange fnChildRangesOwnTheirCellKeysWrong)

/-- 'zzlaws_root_b1.FnEvenCutIsMostEvenFittingSplit': WHATEVER THE INPUT: true; the input reads as it did. -/
def fnEvenCutIsMostEvenFittingSplitSpec : ChangeSpec := { name := "fnEvenCutIsMostEvenFittingSplit", fn := fun _ => fun
  | [d] => { results := [.lit (.bool true)], args := [d] }
  | _ => none }
def fnEvenCutIsMostEvenFittingSplitRow : OpenClaim := { program := "qxb6604034a", sum := "0789442f8a392a52838fd42737efd41e5f019fafce644afec6df35d06ec59be4", func := "example.com/pagewright/pagewright/zzlaws_root_b1.FnEvenCutIsMostEvenFittingSplit", spec := "fnEvenCutIsMostEvenFittingSplit", apart := false }
def FnEvenCutIsMostEvenFittingSplitSaid : Prop := fnEvenCutIsMostEvenFittingSplitRow.holds Try.pinned (OpenSpec.ofChange fnEvenCutIsMostEvenFittingSplitSpec)

/-- ITS FALSE NEIGHBOUR: 'it returns false'. Refute it at one input. -/
def fnEvenCutIsMostEvenFittingSplitWrong : ChangeSpec := { name := "fnEvenCutIsMostEvenFittingSplit", fn := fun _ => fun
  | [d] => { results := [.lit (.bool false)], args := [d] }
  | _ => none }
def FnEvenCutIsMostEvenFittingSplitWrongFalsely : Prop := fnEvenCutIsMostEvenFittingSplitRow.holds Try.pinned (OpenSpec.ofChange fnEvenCutIsMostEvenFittingSplitWrong)

end Rows
end Go.Proofs.Qxb6604034a
