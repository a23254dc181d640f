/-
  No cell of these rows narrows 'for every input' (looked for: loops, veiled, ifaces, maps, wideKeys, modest, calm, conditions, laid).
  DERIVED. THE GIVEN ROWS OF THIS SEAT. 2 by the template 'for every input the law returns true; each argument reads behind the call as it read before'; 0 by the template 'total and deterministic' (their statements: Qxb6627773aTotals.lean).
  GIVEN WITH THE SEED: the statements are not yours to turn. If you find one false, say at which input.
  Laid BY PROGRAM, IN A SANDBOX (cutbox-rows.mjs): the forced cells as the released guide's own fill.sh prints them over the translation 9310b801826aea36… (all of the seat's roots in one cut). By AI agents, Wed Nov 11 2026. No macro, syntax, notation, axiom, sorry.
-/
import Derived.Test.Qxb6627773aChecked
import GoSem.Claim
import GoSem.ClaimJoined
import GoSem.ClaimMapViews
import Derived.JoinedTies
import Derived.KernelRfl
namespace Go.Proofs.Qxb6627773a
/- THE CELL 'sum', in the pinned program and in every row, IS THE sha256 OF THE DUMP (.gsa) THAT Qxb6627773aProg.lean LOADS. Nothing in Lean hashes anything: it is a label: what it is worth is what the hold of that sum in a sandbox is worth. -/
noncomputable def Try.pinned : Pinned := { name := "qxb6627773a", sum := "9310b801826aea3635e204509bad904f687a281c49c6047f89905becbacc15ee", checked := Try.checked }
namespace Rows
def none {H : Type} : Left H := { results := [], args := [] }

/-- 'zzlaws_internal_nodeset_b1.FnMeetsSplitAtAnyCutAndSelf': WHATEVER THE INPUT: true; the input reads as it did. -/
def fnMeetsSplitAtAnyCutAndSelfSpec : ChangeSpec := { name := "fnMeetsSplitAtAnyCutAndSelf", fn := fun _ => fun
  | [d1, d2, d3] => { results := [.lit (.bool true)], args := [d1, d2, d3] }
  | _ => none }
def fnMeetsSplitAtAnyCutAndSelfRow : OpenClaim := { program := "qxb6627773a", sum := "9310b801826aea3635e204509bad904f687a281c49c6047f89905becbacc15ee", func := "example.com/lockstep/lockstep/zzlaws_internal_nodeset_b1.FnMeetsSplitAtAnyCutAndSelf", spec := "fnMeetsSplitAtAnyCutAndSelf", apart := false }
def FnMeetsSplitAtAnyCutAndSelfSaid : Prop := fnMeetsSplitAtAnyCutAndSelfRow.holds Try.pinned (OpenSpec.ofChange fnMeetsSplitAtAnyCutAndSelfSpec)

/-- ITS FALSE NEIGHBOUR: 'it returns false'. Refute it at one input. -/
def fnMeetsSplitAtAnyCutAndSelfWrong : ChangeSpec := { name := "fnMeetsSplitAtAnyCutAndSelf", fn := fun _ => fun
  | [d1, d2, d3] => { results := [.lit (.bool false)], args := [d1, d2, d3] }
  | _ => none }
def FnMeetsSplitAtAnyCutAndSelfWrongFalsely : Prop := fnMeetsSplitAtAnyCutAndSelfRow.holds Try.pinned (OpenSpec.ofChange fnMeetsSplitAtAnyCutAndSelfWrong)

/-- 'zzlaws_internal_nodeset_b1.FnMeetsAddOneNode': WHATEVER THE INPUT: true; the input reads as it did. -/
def fnMeetsAddOneNodeSpec : ChangeSpec := { name := "fnMeetsAddOneNode", fn := fun _ => fun
  | [d1, d2, d3] => { results := [.lit (.bool true)], args := [d1, d2, d3] }
  | _ => none }
def fnMeetsAddOneNodeRow : OpenClaim := { program := "qxb6627773a", sum := "9310b801826aea3635e204509bad904f687a281c49c6047f89905becbacc15ee", func := "example.com/lockstep/lockstep/zzlaws_internal_nodeset_b1.FnMeetsAddOneNode", spec := "fnMeetsAddOneNode", apart := false }
def FnMeetsAddOneNodeSaid : Prop := fnMeetsAddOneNodeRow.holds Try.pinned (OpenSpec.ofChange fnMeetsAddOneNodeSpec)

/-- ITS FALSE NEIGHBOUR: 'it returns false'. Refute it at one input. -/
def fnMeetsAddOneNodeWrong : ChangeSpec := { name := "fnMeetsAddOneNode", fn := fun _ => fun
  | [d1, d2, d3] => { results := [.lit (.bool false)], args := [d1, d2, d3] }
  | _ => none }
def FnMeetsAddOneNodeWrongFalsely : Prop := fnMeetsAddOneNodeRow.holds Try.pinned (OpenSpec.ofChange fnMeetsAddOneNodeWrong)

end Rows
end Go.Proofs.Qxb6627773a
