/-
  No cell of these rows narrows 'for every input' (looked for: loops, veiled, ifaces, maps, wideKeys, modest, calm, conditions, laid).
  DERIVED. THE GIVEN ROWS OF THIS SEAT. 2 by the template 'for every input the law returns true; each argument reads behind the call as it read before'; 0 by the template 'total and deterministic' (their statements: Qxb6629376aTotals.lean).
  GIVEN WITH THE SEED: the statements are not yours to turn. If you find one false, say at which input.
  Laid BY PROGRAM, IN A SANDBOX (cutbox-rows.mjs): the forced cells as the released guide's own fill.sh prints them over the translation c17504dcab7a2c24… (all of the seat's roots in one cut). By AI agents, Wed Nov 11 2026. No macro, syntax, notation, axiom, sorry.
-/
import Derived.Test.Qxb6629376aChecked
import GoSem.Claim
import GoSem.ClaimJoined
import GoSem.ClaimMapViews
import Derived.JoinedTies
import Derived.KernelRfl
namespace Go.Proofs.Qxb6629376a
/- THE CELL 'sum', in the pinned program and in every row, IS THE sha256 OF THE DUMP (.gsa) THAT Qxb6629376aProg.lean LOADS. Nothing in Lean hashes anything: it is a label: what it is worth is what the hold of that sum in a sandbox is worth. -/
noncomputable def Try.pinned : Pinned := { name := "qxb6629376a", sum := "c17504dcab7a2c24fb1142b129c5cce8e9987faff3c60d1f1d395afb7942da28", checked := Try.checked }
namespace Rows
def none {H : Type} : Left H := { results := [], args := [] }

/-- 'zzlaws_tagrule_b1.FnRewriteEditsTurnTheValueIntoItsRewrite': WHATEVER THE INPUT: true; the input reads as it did. -/
def fnRewriteEditsTurnTheValueIntoItsRewriteSpec : ChangeSpec := { name := "fnRewriteEditsTurnTheValueIntoItsRewrite", fn := fun _ => fun
  | [d1, d2, d3, d4] => { results := [.lit (.bool true)], args := [d1, d2, d3, d4] }
  | _ => none }
def fnRewriteEditsTurnTheValueIntoItsRewriteRow : OpenClaim := { program := "qxb6629376a", sum := "c17504dcab7a2c24fb1142b129c5cce8e9987faff3c60d1f1d395afb7942da28", func := "example.com/coltag/coltag/zzlaws_tagrule_b1.FnRewriteEditsTurnTheValueIntoItsRewrite", spec := "fnRewriteEditsTurnTheValueIntoItsRewrite", apart := false }
def FnRewriteEditsTurnTheValueIntoItsRewriteSaid : Prop := fnRewriteEditsTurnTheValueIntoItsRewriteRow.holds Try.pinned (OpenSpec.ofChange fnRewriteEditsTurnTheValueIntoItsRewriteSpec)

/-- ITS FALSE NEIGHBOUR: 'it returns false'. Refute it at one input. -/
def fnRewriteEditsTurnTheValueIntoItsRewriteWrong : ChangeSpec := { name := "fnRewriteEditsTurnTheValueIntoItsRewrite", fn := fun _ => fun
  | [d1, d2, d3, d4] => { results := [.lit (.bool false)], args := [d1, d2, d3, d4] }
  | _ => none }
def FnRewriteEditsTurnTheValueIntoItsRewriteWrongFalsely : Prop := fnRewriteEditsTurnTheValueIntoItsRewriteRow.holds Try.pinned (OpenSpec.ofChange fnRewriteEditsTurnTheValueIntoItsRewriteWrong)

/-- 'zzlaws_tagrule_b1.FnRewriteAtAnInsertedOption': WHATEVER THE INPUT: true; the input reads as it did. -/
def fnRewriteAtAnInsertedOptionSpec : ChangeSpec := { name := "fnRewriteAtAnInsertedOption", fn := fun _ => fun
  | [d1, d2, d3, d4, d5, d6] => { results := [.lit (.bool true)], args := [d1, d2, d3, d4, d5, d6] }
  | _ => none }
def fnRewriteAtAnInsertedOptionRow : OpenClaim := { program := "qxb6629376a", sum := "c17504dcab7a2c24fb1142b129c5cce8e9987faff3c60d1f1d395afb7942da28", func := "example.com/coltag/coltag/zzlaws_tagrule_b1.FnRewriteAtAnInsertedOption", spec := "fnRewriteAtAnInsertedOption", apart := false }
def FnRewriteAtAnInsertedOptionSaid : Prop := fnRewriteAtAnInsertedOptionRow.holds Try.pinned (OpenSpec.ofChange fnRewriteAtAnInsertedOptionSpec)

/-- ITS FALSE NEIGHBOUR: 'it returns false'. Refute it at one input. -/
def fnRewriteAtAnInsertedOptionWrong : ChangeSpec := { name := "fnRewriteAtAnInsertedOption", fn := fun _ => fun
  | [d1, d2, d3, d4, d5, d6] => { results := [.lit (.bool false)], args := [d1, d2, d3, d4, d5, d6] }
  | _ => none }
def FnRewriteAtAnInsertedOptionWrongFalsely : Prop := fnRewriteAtAnInsertedOptionRow.holds Try.pinned (OpenSpec.ofChange fnRewriteAtAnInsertedOptionWrong)

end Rows
end Go.Proofs.Qxb6629376a
