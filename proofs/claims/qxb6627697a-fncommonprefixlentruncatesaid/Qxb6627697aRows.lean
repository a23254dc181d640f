/-
  No cell of these rows narrows 'for every input' (looked for: loops, veiled, ifaces, maps, wideKeys, modest, calm, conditions, laid).
  DERIVED. THE GIVEN ROWS OF THIS SEAT. 2 by the template 'for every input the law returns true; each argument reads behind the call as it read before'; 0 by the template 'total and deterministic' (their statements: Qxb6627697aTotals.lean).
  GIVEN WITH THE SEED: the statements are not yours to turn. If you find one false, say at which input.
  Laid BY PROGRAM, IN A SANDBOX (cutbox-rows.mjs): the forced cells as the released guide's own fill.sh prints them over the translation 44d10d478d3fa6c5… (all of the seat's roots in one cut). By AI agents, Wed Nov 11 2026. No macro, syntax, notation, axiom, sorry.
-/
import Derived.Test.Qxb6627697aChecked
import GoSem.Claim
import GoSem.ClaimJoined
import GoSem.ClaimMapViews
import Derived.JoinedTies
import Derived.KernelRfl
namespace Go.Proofs.Qxb6627697a
/- THE CELL 'sum', in the pinned program and in every row, IS THE sha256 OF THE DUMP (.gsa) THAT Qxb6627697aProg.lean LOADS. Nothing in Lean hashes anything: it is a label: what it is worth is what the hold of that sum in a sandbox is worth. -/
noncomputable def Try.pinned : Pinned := { name := "qxb6627697a", sum := "44d10d478d3fa6c527c8e81033593de5b99166b8eff533367597830e26983c95", checked := Try.checked }
namespace Rows
def none {H : Type} : Left H := { results := [], args := [] }

/-- 'zzlaws_root_b1.FnCommonPrefixLenSharedPrefix': WHATEVER THE INPUT: true; the input reads as it did. -/
def fnCommonPrefixLenSharedPrefixSpec : ChangeSpec := { name := "fnCommonPrefixLenSharedPrefix", fn := fun _ => fun
  | [d1, d2, d3] => { results := [.lit (.bool true)], args := [d1, d2, d3] }
  | _ => none }
def fnCommonPrefixLenSharedPrefixRow : OpenClaim := { program := "qxb6627697a", sum := "44d10d478d3fa6c527c8e81033593de5b99166b8eff533367597830e26983c95", func := "example.com/cambium/cambium/zzlaws_root_b1.FnCommonPrefixLenSharedPrefix", spec := "fnCommonPrefixLenSharedPrefix", apart := false }
def FnCommonPrefixLenSharedPrefixSaid : Prop := fnCommonPrefixLenSharedPrefixRow.holds Try.pinned (OpenSpec.ofChange fnCommonPrefixLenSharedPrefixSpec)

/-- ITS FALSE NEIGHBOUR: 'it returns false'. Refute it at one input. -/
def fnCommonPrefixLenSharedPrefixWrong : ChangeSpec := { name := "fnCommonPrefixLenSharedPrefix", fn := fun _ => fun
  | [d1, d2, d3] => { results := [.lit (.bool false)], args := [d1, d2, d3] }
  | _ => none }
def FnCommonPrefixLenSharedPrefixWrongFalsely : Prop := fnCommonPrefixLenSharedPrefixRow.holds Try.pinned (OpenSpec.ofChange fnCommonPrefixLenSharedPrefixWrong)

/-- 'zzlaws_root_b1.FnCommonPrefixLenTruncate': WHATEVER THE INPUT: true; the input reads as it did. -/
def fnCommonPrefixLenTruncateSpec : ChangeSpec := { name := "fnCommonPrefixLenTruncate", fn := fun _ => fun
  | [d1, d2, d3] => { results := [.lit (.bool true)], args := [d1, d2, d3] }
  | _ => none }
def fnCommonPrefixLenTruncateRow : OpenClaim := { program := "qxb6627697a", sum := "44d10d478d3fa6c527c8e81033593de5b99166b8eff533367597830e26983c95", func := "example.com/cambium/cambium/zzlaws_root_b1.FnCommonPrefixLenTruncate", spec := "fnCommonPrefixLenTruncate", apart := false }
def FnCommonPrefixLenTruncateSaid : Prop := fnCommonPrefixLenTruncateRow.holds Try.pinned (OpenSpec.ofChange fnCommonPrefixLenTruncateSpec)

/-- ITS FALSE NEIGHBOUR: 'it returns false'. Refute it at one input. -/
def fnCommonPrefixLenTruncateWrong : ChangeSpec := { name := "fnCommonPrefixLenTruncate", fn := fun _ => fun
  | [d1, d2, d3] => { results := [.lit (.bool false)], args := [d1, d2, d3] }
  | _ => none }
def FnCommonPrefixLenTruncateWrongFalsely : Prop := fnCommonPrefixLenTruncateRow.holds Try.pinned (OpenSpec.ofChange fnCommonPrefixLenTruncateWrong)

end Rows
end Go.Proofs.Qxb6627697a
