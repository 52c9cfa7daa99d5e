/-
  No cell of these rows narrows 'for every input' (looked for: loops, veiled, ifaces, maps, wideKeys, modest, calm, conditions, laid).
  DERIVED. THE GIVEN ROWS OF THIS SEAT. 2 by the template 'for every input the law returns true; each argument reads behind the call as it read before'; 0 by the template 'total and deterministic' (their statements: Qxb6602652aTotals.lean).
  GIVEN WITH THE SEED: the statements are not yours to turn. If you find one false, say at which input.
  Laid BY PROGRAM, IN A SANDBOX (cutbox-rows.mjs): the forced cells as the released guide's own fill.sh prints them over the translation f7415878c897f04e… (all of the seat's roots in one cut). By AI agents, Wed Nov 11 2026. No macro, syntax, notation, axiom, sorry.
-/
import Derived.Test.Qxb6602652aChecked
import GoSem.Claim
import GoSem.ClaimJoined
import GoSem.ClaimMapViews
import Derived.JoinedTies
import Derived.KernelRfl
namespace Go.Proofs.Qxb6602652a
/- THE CELL 'sum', in the pinned program and in every row, IS THE sha256 OF THE DUMP (.gsa) THAT Qxb6602652aProg.lean LOADS. Nothing in Lean hashes anything: it is a label: what it is worth is what the hold of that sum in a sandbox is worth. -/
noncomputable def Try.pinned : Pinned := { name := "qxb6602652a", sum := "f7415878c897f04eb5713be6738aef358ded71fc9167cf2ecda0b7e589b4e65c", checked := Try.checked }
namespace Rows
def none {H : Type} : Left H := { results := [], args := [] }

/-- 'zzlaws_pkg_fund_b1.FnHoldsSettlementsNoNameBothWays': WHATEVER THE INPUT: true; the input reads as it did. -/
def fnHoldsSettlementsNoNameBothWaysSpec : ChangeSpec := { name := "fnHoldsSettlementsNoNameBothWays", fn := fun _ => fun
  | [d] => { results := [.lit (.bool true)], args := [d] }
  | _ => none }
def fnHoldsSettlementsNoNameBothWaysRow : OpenClaim := { program := "qxb6602652a", sum := "f7415878c897f04eb5713be6738aef358ded71fc9167cf2ecda0b7e589b4e65c", func := "example.com/fundward/fundward/zzlaws_pkg_fund_b1.FnHoldsSettlementsNoNameBothWays", spec := "fnHoldsSettlementsNoNameBothWays", apart := false }
def FnHoldsSettlementsNoNameBothWaysSaid : Prop := fnHoldsSettlementsNoNameBothWaysRow.holds Try.pinned (OpenSpec.ofChange fnHoldsSettlementsNoNameBothWaysSpec)

/-- ITS FALSE NEIGHBOUR: 'it returns false'. Refute it at one input. -/
def fnHoldsSettlementsNoNameBothWaysWrong : ChangeSpec := { name := "fnHoldsSettlementsNoNameBothWays", fn := fun _ => fun
  | [d] => { results := [.lit (.bool false)], args := [d] }
  | _ => none }
def FnHoldsSettlementsNoNameBothWaysWrongFalsely : Prop := fnHoldsSettlementsNoNameBothWaysRow.holds Try.pinned (OpenSpec.ofChange fnHoldsSettlementsNoNameBothWaysWrong)

/-- 'zzlaws_pkg_fund_b1.FnBreachKeyStringParsesBack': WHATEVER THE INPUT: true; the input reads as it did. -/
def fnBreachKeyStringParsesBackSpec : ChangeSpec := { name := "fnBreachKeyStringParsesBack", fn := fun _ => fun
  | [d1, d2] => { results := [.lit (.bool true)], args := [d1, d2] }
  | _ => none }
def fnBreachKeyStringParsesBackRow : OpenClaim := { program := "qxb6602652a", sum := "f7415878c897f04eb5713be6738aef358ded71fc9167cf2ecda0b7e589b4e65c", func := "example.com/fundward/fundward/zzlaws_pkg_fund_b1.FnBreachKeyStringParsesBack", spec := "fnBreachKeyStringParsesBack", apart := false }
def FnBreachKeyStringParsesBackSaid : Prop := fnBreachKeyStringParsesBackRow.holds Try.pinned (OpenSpec.ofChange fnBreachKeyStringParsesBackSpec)

/-- ITS FALSE NEIGHBOUR: 'it returns false'. Refute it at one input. -/
def fnBreachKeyStringParsesBackWrong : ChangeSpec := { name := "fnBreachKeyStringParsesBack", fn := fun _ => fun
  | [d1, d2] => { results := [.lit (.bool false)], args := [d1, d2] }
  | _ => none }
def FnBreachKeyStringParsesBackWrongFalsely : Prop := fnBreachKeyStringParsesBackRow.holds Try.pinned (OpenSpec.ofChange fnBreachKeyStringParsesBackWrong)

end Rows
end Go.Proofs.Qxb6602652a
