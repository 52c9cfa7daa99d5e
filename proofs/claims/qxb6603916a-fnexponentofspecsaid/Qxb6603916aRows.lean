/-
  No cell of these rows narrows 'for every input' (looked for: loops, veiled, ifaces, maps, wideKeys, modest, calm, conditions, laid).
  DERIVED. THE GIVEN ROWS OF THIS SEAT. 2 by the template 'for every input the law returns true; each argument reads behind the call as it read before'; 0 by the template 'total and deterministic' (their statements: Qxb6603916aTotals.lean).
  GIVEN WITH THE SEED: the statements are not yours to turn. If you find one false, say at which input.
  Laid BY PROGRAM, IN A SANDBOX (cutbox-rows.mjs): the forced cells as the released guide's own fill.sh prints them over the translation cfda7176cde3f432… (all of the seat's roots in one cut). By AI agents, Wed Nov 11 2026. No macro, syntax, notation, axiom, sorry.
-/
import Derived.Test.Qxb6603916aChecked
import GoSem.Claim
import GoSem.ClaimJoined
import GoSem.ClaimMapViews
import Derived.JoinedTies
import Derived.KernelRfl
namespace Go.Proofs.Qxb6603916a
/- THE CELL 'sum', in the pinned program and in every row, IS THE sha256 OF THE DUMP (.gsa) THAT Qxb6603916aProg.lean LOADS. Nothing in Lean hashes anything: it is a label: what it is worth is what the hold of that sum in a sandbox is worth. -/
noncomputable def Try.pinned : Pinned := { name := "qxb6603916a", sum := "cfda7176cde3f4328f98f0be2f883f99e546620855b73a54f5749f5bd7b47dfb", checked := Try.checked }
namespace Rows
def none {H : Type} : Left H := { results := [], args := [] }

/-- 'zzlaws_internal_yamldata_b1.FnHexDigitSpec': WHATEVER THE INPUT: true; the input reads as it did. -/
def fnHexDigitSpecSpec : ChangeSpec := { name := "fnHexDigitSpec", fn := fun _ => fun
  | [d] => { results := [.lit (.bool true)], args := [d] }
  | _ => none }
def fnHexDigitSpecRow : OpenClaim := { program := "qxb6603916a", sum := "cfda7176cde3f4328f98f0be2f883f99e546620855b73a54f5749f5bd7b47dfb", func := "example.com/template-to-web/template-to-web/zzlaws_internal_yamldata_b1.FnHexDigitSpec", spec := "fnHexDigitSpec", apart := false }
def FnHexDigitSpecSaid : Prop := fnHexDigitSpecRow.holds Try.pinned (OpenSpec.ofChange fnHexDigitSpecSpec)

/-- ITS FALSE NEIGHBOUR: 'it returns false'. Refute it at one input. -/
def fnHexDigitSpecWrong : ChangeSpec := { name := "fnHexDigitSpec", fn := fun _ => fun
  | [d] => { results := [.lit (.bool false)], args := [d] }
  | _ => none }
def FnHexDigitSpecWrongFalsely : Prop := fnHexDigitSpecRow.holds Try.pinned (OpenSpec.ofChange fnHexDigitSpecWrong)

/-- 'zzlaws_internal_yamldata_b1.FnExponentOfSpec': WHATEVER THE INPUT: true; the input reads as it did. -/
def fnExponentOfSpecSpec : ChangeSpec := { name := "fnExponentOfSpec", fn := fun _ => fun
  | [d] => { results := [.lit (.bool true)], args := [d] }
  | _ => none }
def fnExponentOfSpecRow : OpenClaim := { program := "qxb6603916a", sum := "cfda7176cde3f4328f98f0be2f883f99e546620855b73a54f5749f5bd7b47dfb", func := "example.com/template-to-web/template-to-web/zzlaws_internal_yamldata_b1.FnExponentOfSpec", spec := "fnExponentOfSpec", apart := false }
def FnExponentOfSpecSaid : Prop := fnExponentOfSpecRow.holds Try.pinned (OpenSpec.ofChange fnExponentOfSpecSpec)

/-- ITS FALSE NEIGHBOUR: 'it returns false'. Refute it at one input. -/
def fnExponentOfSpecWrong : ChangeSpec := { name := "fnExponentOfSpec", fn := fun _ => fun
  | [d] => { results := [.lit (.bool false)], args := [d] }
  | _ => none }
def FnExponentOfSpecWrongFalsely : Prop := fnExponentOfSpecRow.holds Try.pinned (OpenSpec.ofChange fnExponentOfSpecWrong)

end Rows
end Go.Proofs.Qxb6603916a
