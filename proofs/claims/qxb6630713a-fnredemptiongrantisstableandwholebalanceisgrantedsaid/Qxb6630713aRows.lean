/-
  No cell of these rows narrows 'for every input' (looked for: loops, veiled, ifaces, maps, wideKeys, modest, calm, conditions, laid).
  DERIVED. THE GIVEN ROWS OF THIS SEAT. 2 by the template 'for every input the law returns true; each argument reads behind the call as it read before'; 0 by the template 'total and deterministic' (their statements: Qxb6630713aTotals.lean).
  GIVEN WITH THE SEED: the statements are not yours to turn. If you find one false, say at which input.
  Laid BY PROGRAM, IN A SANDBOX (cutbox-rows.mjs): the forced cells as the released guide's own fill.sh prints them over the translation 343fdc7832f3b733… (all of the seat's roots in one cut). By AI agents, Wed Nov 11 2026. No macro, syntax, notation, axiom, sorry.
-/
import Derived.Test.Qxb6630713aChecked
import GoSem.Claim
import GoSem.ClaimJoined
import GoSem.ClaimMapViews
import Derived.JoinedTies
import Derived.KernelRfl
namespace Go.Proofs.Qxb6630713a
/- THE CELL 'sum', in the pinned program and in every row, IS THE sha256 OF THE DUMP (.gsa) THAT Qxb6630713aProg.lean LOADS. Nothing in Lean hashes anything: it is a label: what it is worth is what the hold of that sum in a sandbox is worth. -/
noncomputable def Try.pinned : Pinned := { name := "qxb6630713a", sum := "343fdc7832f3b733454129937489633735ca874c6c9bedf838d9f7a61efcc75c", checked := Try.checked }
namespace Rows
def none {H : Type} : Left H := { results := [], args := [] }

/-- 'zzlaws_pkg_contract_b1.FnRedemptionGrantIsStableAndWholeBalanceIsGranted': WHATEVER THE INPUT: true; the input reads as it did. -/
def fnRedemptionGrantIsStableAndWholeBalanceIsGrantedSpec : ChangeSpec := { name := "fnRedemptionGrantIsStableAndWholeBalanceIsGranted", fn := fun _ => fun
  | [d1, d2, d3, d4, d5] => { results := [.lit (.bool true)], args := [d1, d2, d3, d4, d5] }
  | _ => none }
def fnRedemptionGrantIsStableAndWholeBalanceIsGrantedRow : OpenClaim := { program := "qxb6630713a", sum := "343fdc7832f3b733454129937489633735ca874c6c9bedf838d9f7a61efcc75c", func := "example.com/qiyue/qiyue/zzlaws_pkg_contract_b1.FnRedemptionGrantIsStableAndWholeBalanceIsGranted", spec := "fnRedemptionGrantIsStableAndWholeBalanceIsGranted", apart := false }
def FnRedemptionGrantIsStableAndWholeBalanceIsGrantedSaid : Prop := fnRedemptionGrantIsStableAndWholeBalanceIsGrantedRow.holds Try.pinned (OpenSpec.ofChange fnRedemptionGrantIsStableAndWholeBalanceIsGrantedSpec)

/-- ITS FALSE NEIGHBOUR: 'it returns false'. Refute it at one input. -/
def fnRedemptionGrantIsStableAndWholeBalanceIsGrantedWrong : ChangeSpec := { name := "fnRedemptionGrantIsStableAndWholeBalanceIsGranted", fn := fun _ => fun
  | [d1, d2, d3, d4, d5] => { results := [.lit (.bool false)], args := [d1, d2, d3, d4, d5] }
  | _ => none }
def FnRedemptionGrantIsStableAndWholeBalanceIsGrantedWrongFalsely : Prop := fnRedemptionGrantIsStableAndWholeBalanceIsGrantedRow.holds Try.pinned (OpenSpec.ofChange fnRedemptionGrantIsStableAndWholeBalanceIsGrantedWrong)

/-- 'zzlaws_pkg_contract_b1.FnRedemptionMonotoneInAsked': WHATEVER THE INPUT: true; the input reads as it did. -/
def fnRedemptionMonotoneInAskedSpec : ChangeSpec := { name := "fnRedemptionMonotoneInAsked", fn := fun _ => fun
  | [d1, d2, d3, d4, d5, d6] => { results := [.lit (.bool true)], args := [d1, d2, d3, d4, d5, d6] }
  | _ => none }
def fnRedemptionMonotoneInAskedRow : OpenClaim := { program := "qxb6630713a", sum := "343fdc7832f3b733454129937489633735ca874c6c9bedf838d9f7a61efcc75c", func := "example.com/qiyue/qiyue/zzlaws_pkg_contract_b1.FnRedemptionMonotoneInAsked", spec := "fnRedemptionMonotoneInAsked", apart := false }
def FnRedemptionMonotoneInAskedSaid : Prop := fnRedemptionMonotoneInAskedRow.holds Try.pinned (OpenSpec.ofChange fnRedemptionMonotoneInAskedSpec)

/-- ITS FALSE NEIGHBOUR: 'it returns false'. Refute it at one input. -/
def fnRedemptionMonotoneInAskedWrong : ChangeSpec := { name := "fnRedemptionMonotoneInAsked", fn := fun _ => fun
  | [d1, d2, d3, d4, d5, d6] => { results := [.lit (.bool false)], args := [d1, d2, d3, d4, d5, d6] }
  | _ => none }
def FnRedemptionMonotoneInAskedWrongFalsely : Prop := fnRedemptionMonotoneInAskedRow.holds Try.pinned (OpenSpec.ofChange fnRedemptionMonotoneInAskedWrong)

end Rows
end Go.Proofs.Qxb6630713a
