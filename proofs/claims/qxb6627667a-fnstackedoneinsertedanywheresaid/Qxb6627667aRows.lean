/-
  No cell of these rows narrows 'for every input' (looked for: loops, veiled, ifaces, maps, wideKeys, modest, calm, conditions, laid).
  DERIVED. THE GIVEN ROWS OF THIS SEAT. 1 by the template 'for every input the law returns true; each argument reads behind the call as it read before'; 0 by the template 'total and deterministic' (their statements: Qxb6627667aTotals.lean).
  GIVEN WITH THE SEED: the statements are not yours to turn. If you find one false, say at which input.
  Laid BY PROGRAM, IN A SANDBOX (cutbox-rows.mjs): the forced cells as the released guide's own fill.sh prints them over the translation 08c577db923e5966… (all of the seat's roots in one cut). By AI agents, Wed Nov 11 2026. No macro, syntax, notation, axiom, sorry.
-/
import Derived.Test.Qxb6627667aChecked
import GoSem.Claim
import GoSem.ClaimJoined
import GoSem.ClaimMapViews
import Derived.JoinedTies
import Derived.KernelRfl
namespace Go.Proofs.Qxb6627667a
/- THE CELL 'sum', in the pinned program and in every row, IS THE sha256 OF THE DUMP (.gsa) THAT Qxb6627667aProg.lean LOADS. Nothing in Lean hashes anything: it is a label: what it is worth is what the hold of that sum in a sandbox is worth. -/
noncomputable def Try.pinned : Pinned := { name := "qxb6627667a", sum := "08c577db923e596604cb4ea52dc14f689c694d387680d5ff0730d4975907ed4e", checked := Try.checked }
namespace Rows
def none {H : Type} : Left H := { results := [], args := [] }

/-- 'zzlaws_internal_queue_b1.FnStackedOneInsertedAnywhere': WHATEVER THE INPUT: true; the input reads as it did. -/
def fnStackedOneInsertedAnywhereSpec : ChangeSpec := { name := "fnStackedOneInsertedAnywhere", fn := fun _ => fun
  | [d1, d2, d3, d4, d5, d6, d7, d8, d9] => { results := [.lit (.bool true)], args := [d1, d2, d3, d4, d5, d6, d7, d8, d9] }
  | _ => none }
def fnStackedOneInsertedAnywhereRow : OpenClaim := { program := "qxb6627667a", sum := "08c577db923e596604cb4ea52dc14f689c694d387680d5ff0730d4975907ed4e", func := "example.com/shunter/shunter/zzlaws_internal_queue_b1.FnStackedOneInsertedAnywhere", spec := "fnStackedOneInsertedAnywhere", apart := false }
def FnStackedOneInsertedAnywhereSaid : Prop := fnStackedOneInsertedAnywhereRow.holds Try.pinned (OpenSpec.ofChange fnStackedOneInsertedAnywhereSpec)

/-- ITS FALSE NEIGHBOUR: 'it returns false'. Refute it at one input. -/
def fnStackedOneInsertedAnywhereWrong : ChangeSpec := { name := "fnStackedOneInsertedAnywhere", fn := fun _ => fun
  | [d1, d2, d3, d4, d5, d6, d7, d8, d9] => { results := [.lit (.bool false)], args := [d1, d2, d3, d4, d5, d6, d7, d8, d9] }
  | _ => none }
def FnStackedOneInsertedAnywhereWrongFalsely : Prop := fnStackedOneInsertedAnywhereRow.holds Try.pinned (OpenSpec.ofChange fnStackedOneInsertedAnywhereWrong)

end Rows
end Go.Proofs.Qxb6627667a
