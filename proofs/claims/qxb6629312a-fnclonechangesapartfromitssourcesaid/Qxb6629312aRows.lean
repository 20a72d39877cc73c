/-
  No cell of these rows narrows 'for every input' (looked for: loops, veiled, ifaces, maps, wideKeys, modest, calm, conditions, laid).
  DERIVED. THE GIVEN ROWS OF THIS SEAT. 2 by the template 'for every input the law returns true; each argument reads behind the call as it read before'; 0 by the template 'total and deterministic' (their statements: Qxb6629312aTotals.lean).
  GIVEN WITH THE SEED: the statements are not yours to turn. If you find one false, say at which input.
  Laid BY PROGRAM, IN A SANDBOX (cutbox-rows.mjs): the forced cells as the released guide's own fill.sh prints them over the translation e032f6288ade0400… (all of the seat's roots in one cut). By AI agents, Wed Nov 11 2026. No macro, syntax, notation, axiom, sorry.
-/
import Derived.Test.Qxb6629312aChecked
import GoSem.Claim
import GoSem.ClaimJoined
import GoSem.ClaimMapViews
import Derived.JoinedTies
import Derived.KernelRfl
namespace Go.Proofs.Qxb6629312a
/- THE CELL 'sum', in the pinned program and in every row, IS THE sha256 OF THE DUMP (.gsa) THAT Qxb6629312aProg.lean LOADS. Nothing in Lean hashes anything: it is a label: what it is worth is what the hold of that sum in a sandbox is worth. -/
noncomputable def Try.pinned : Pinned := { name := "qxb6629312a", sum := "e032f6288ade0400eb43e8a6a409e2247558587204159d3aaee1679f3bc684b9", checked := Try.checked }
namespace Rows
def none {H : Type} : Left H := { results := [], args := [] }

/-- 'zzlaws_pkg_board_b1.FnCloneCopiesEveryEntrantIntoFreshIndexedNodes': WHATEVER THE INPUT: true; the input reads as it did. -/
def fnCloneCopiesEveryEntrantIntoFreshIndexedNodesSpec : ChangeSpec := { name := "fnCloneCopiesEveryEntrantIntoFreshIndexedNodes", fn := fun _ => fun
  | [d1, d2, d3] => { results := [.lit (.bool true)], args := [d1, d2, d3] }
  | _ => none }
def fnCloneCopiesEveryEntrantIntoFreshIndexedNodesRow : OpenClaim := { program := "qxb6629312a", sum := "e032f6288ade0400eb43e8a6a409e2247558587204159d3aaee1679f3bc684b9", func := "example.com/fresh-scoreboard/fresh-scoreboard/zzlaws_pkg_board_b1.FnCloneCopiesEveryEntrantIntoFreshIndexedNodes", spec := "fnCloneCopiesEveryEntrantIntoFreshIndexedNodes", apart := false }
def FnCloneCopiesEveryEntrantIntoFreshIndexedNodesSaid : Prop := fnCloneCopiesEveryEntrantIntoFreshIndexedNodesRow.holds Try.pinned (OpenSpec.ofChange fnCloneCopiesEveryEntrantIntoFreshIndexedNodesSpec)

/-- ITS FALSE NEIGHBOUR: 'it returns false'. Refute it at one input. -/
def fnCloneCopiesEveryEntrantIntoFreshIndexedNodesWrong : ChangeSpec := { name := "fnCloneCopiesEveryEntrantIntoFreshIndexedNodes", fn := fun _ => fun
  | [d1, d2, d3] => { results := [.lit (.bool false)], args := [d1, d2, d3] }
  | _ => none }
def FnCloneCopiesEveryEntrantIntoFreshIndexedNodesWrongFalsely : Prop := fnCloneCopiesEveryEntrantIntoFreshIndexedNodesRow.holds Try.pinned (OpenSpec.ofChange fnCloneCopiesEveryEntrantIntoFreshIndexedNodesWrong)

/-- 'zzlaws_pkg_board_b1.FnCloneChangesApartFromItsSource': WHATEVER THE INPUT: true; the input reads as it did. -/
def fnCloneChangesApartFromItsSourceSpec : ChangeSpec := { name := "fnCloneChangesApartFromItsSource", fn := fun _ => fun
  | [d1, d2, d3] => { results := [.lit (.bool true)], args := [d1, d2, d3] }
  | _ => none }
def fnCloneChangesApartFromItsSourceRow : OpenClaim := { program := "qxb6629312a", sum := "e032f6288ade0400eb43e8a6a409e2247558587204159d3aaee1679f3bc684b9", func := "example.com/fresh-scoreboard/fresh-scoreboard/zzlaws_pkg_board_b1.FnCloneChangesApartFromItsSource", spec := "fnCloneChangesApartFromItsSource", apart := false }
def FnCloneChangesApartFromItsSourceSaid : Prop := fnCloneChangesApartFromItsSourceRow.holds Try.pinned (OpenSpec.ofChange fnCloneChangesApartFromItsSourceSpec)

/-- ITS FALSE NEIGHBOUR: 'it returns false'. Refute it at one input. -/
def fnCloneChangesApartFromItsSourceWrong : ChangeSpec := { name := "fnCloneChangesApartFromItsSource", fn := fun _ => fun
  | [d1, d2, d3] => { results := [.lit (.bool false)], args := [d1, d2, d3] }
  | _ => none }
def FnCloneChangesApartFromItsSourceWrongFalsely : Prop := fnCloneChangesApartFromItsSourceRow.holds Try.pinned (OpenSpec.ofChange fnCloneChangesApartFromItsSourceWrong)

end Rows
end Go.Proofs.Qxb6629312a
