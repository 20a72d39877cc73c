/-
  No cell of these rows narrows 'for every input' (looked for: loops, veiled, ifaces, maps, wideKeys, modest, calm, conditions, laid).
  DERIVED. THE GIVEN ROWS OF THIS SEAT. 2 by the template 'for every input the law returns true; each argument reads behind the call as it read before'; 0 by the template 'total and deterministic' (their statements: Qxb6630669aTotals.lean).
  GIVEN WITH THE SEED: the statements are not yours to turn. If you find one false, say at which input.
  Laid BY PROGRAM, IN A SANDBOX (cutbox-rows.mjs): the forced cells as the released guide's own fill.sh prints them over the translation 54fc8179b3f1a2b9… (all of the seat's roots in one cut). By AI agents, Wed Nov 11 2026. No macro, syntax, notation, axiom, sorry.
-/
import Derived.Test.Qxb6630669aChecked
import GoSem.Claim
import GoSem.ClaimJoined
import GoSem.ClaimMapViews
import Derived.JoinedTies
import Derived.KernelRfl
namespace Go.Proofs.Qxb6630669a
/- THE CELL 'sum', in the pinned program and in every row, IS THE sha256 OF THE DUMP (.gsa) THAT Qxb6630669aProg.lean LOADS. Nothing in Lean hashes anything: it is a label: what it is worth is what the hold of that sum in a sandbox is worth. -/
noncomputable def Try.pinned : Pinned := { name := "qxb6630669a", sum := "54fc8179b3f1a2b98609f88730aed34f4407e0007c66eb69c7f1875b85c5ce14", checked := Try.checked }
namespace Rows
def none {H : Type} : Left H := { results := [], args := [] }

/-- 'zzlaws_internal_jsonfield_b1.FnIsNumberAgreesWithAutomatonAtEveryPrefix': WHATEVER THE INPUT: true; the input reads as it did. -/
def fnIsNumberAgreesWithAutomatonAtEveryPrefixSpec : ChangeSpec := { name := "fnIsNumberAgreesWithAutomatonAtEveryPrefix", fn := fun _ => fun
  | [d] => { results := [.lit (.bool true)], args := [d] }
  | _ => none }
def fnIsNumberAgreesWithAutomatonAtEveryPrefixRow : OpenClaim := { program := "qxb6630669a", sum := "54fc8179b3f1a2b98609f88730aed34f4407e0007c66eb69c7f1875b85c5ce14", func := "example.com/typewire/typewire/zzlaws_internal_jsonfield_b1.FnIsNumberAgreesWithAutomatonAtEveryPrefix", spec := "fnIsNumberAgreesWithAutomatonAtEveryPrefix", apart := false }
def FnIsNumberAgreesWithAutomatonAtEveryPrefixSaid : Prop := fnIsNumberAgreesWithAutomatonAtEveryPrefixRow.holds Try.pinned (OpenSpec.ofChange fnIsNumberAgreesWithAutomatonAtEveryPrefixSpec)

/-- ITS FALSE NEIGHBOUR: 'it returns false'. Refute it at one input. -/
def fnIsNumberAgreesWithAutomatonAtEveryPrefixWrong : ChangeSpec := { name := "fnIsNumberAgreesWithAutomatonAtEveryPrefix", fn := fun _ => fun
  | [d] => { results := [.lit (.bool false)], args := [d] }
  | _ => none }
def FnIsNumberAgreesWithAutomatonAtEveryPrefixWrongFalsely : Prop := fnIsNumberAgreesWithAutomatonAtEveryPrefixRow.holds Try.pinned (OpenSpec.ofChange fnIsNumberAgreesWithAutomatonAtEveryPrefixWrong)

/-- 'zzlaws_internal_jsonfield_b1.FnIsNumberSignExponentAndDigits': WHATEVER THE INPUT: true; the input reads as it did. -/
def fnIsNumberSignExponentAndDigitsSpec : ChangeSpec := { name := "fnIsNumberSignExponentAndDigits", fn := fun _ => fun
  | [d1, d2] => { results := [.lit (.bool true)], args := [d1, d2] }
  | _ => none }
def fnIsNumberSignExponentAndDigitsRow : OpenClaim := { program := "qxb6630669a", sum := "54fc8179b3f1a2b98609f88730aed34f4407e0007c66eb69c7f1875b85c5ce14", func := "example.com/typewire/typewire/zzlaws_internal_jsonfield_b1.FnIsNumberSignExponentAndDigits", spec := "fnIsNumberSignExponentAndDigits", apart := false }
def FnIsNumberSignExponentAndDigitsSaid : Prop := fnIsNumberSignExponentAndDigitsRow.holds Try.pinned (OpenSpec.ofChange fnIsNumberSignExponentAndDigitsSpec)

/-- ITS FALSE NEIGHBOUR: 'it returns false'. Refute it at one input. -/
def fnIsNumberSignExponentAndDigitsWrong : ChangeSpec := { name := "fnIsNumberSignExponentAndDigits", fn := fun _ => fun
  | [d1, d2] => { results := [.lit (.bool false)], args := [d1, d2] }
  | _ => none }
def FnIsNumberSignExponentAndDigitsWrongFalsely : Prop := fnIsNumberSignExponentAndDigitsRow.holds Try.pinned (OpenSpec.ofChange fnIsNumberSignExponentAndDigitsWrong)

end Rows
end Go.Proofs.Qxb6630669a
