/-
  No cell of these rows narrows 'for every input' (looked for: loops, veiled, ifaces, maps, wideKeys, modest, calm, conditions, laid).
  DERIVED. THE GIVEN ROWS OF THIS SEAT. 2 by the template 'for every input the law returns true; each argument reads behind the call as it read before'; 0 by the template 'total and deterministic' (their statements: Qxb6627730aTotals.lean).
  GIVEN WITH THE SEED: the statements are not yours to turn. If you find one false, say at which input.
  Laid BY PROGRAM, IN A SANDBOX (cutbox-rows.mjs): the forced cells as the released guide's own fill.sh prints them over the translation aa00984ef2e1b2fa… (all of the seat's roots in one cut). By AI agents, Wed Nov 11 2026. No macro, syntax, notation, axiom, sorry.
-/
import Derived.Test.Qxb6627730aChecked
import GoSem.Claim
import GoSem.ClaimJoined
import GoSem.ClaimMapViews
import Derived.JoinedTies
import Derived.KernelRfl
namespace Go.Proofs.Qxb6627730a
/- THE CELL 'sum', in the pinned program and in every row, IS THE sha256 OF THE DUMP (.gsa) THAT Qxb6627730aProg.lean LOADS. Nothing in Lean hashes anything: it is a label: what it is worth is what the hold of that sum in a sandbox is worth. -/
noncomputable def Try.pinned : Pinned := { name := "qxb6627730a", sum := "aa00984ef2e1b2fa2c63b8b27e82c88a7c8d73c7c2b8a66e6bee0b7973dad808", checked := Try.checked }
namespace Rows
def none {H : Type} : Left H := { results := [], args := [] }

/-- 'zzlaws_internal_load_b1.FnMeanIsTruncatedQuotientAndAppendingItKeepsIt': WHATEVER THE INPUT: true; the input reads as it did. -/
def fnMeanIsTruncatedQuotientAndAppendingItKeepsItSpec : ChangeSpec := { name := "fnMeanIsTruncatedQuotientAndAppendingItKeepsIt", fn := fun _ => fun
  | [d] => { results := [.lit (.bool true)], args := [d] }
  | _ => none }
def fnMeanIsTruncatedQuotientAndAppendingItKeepsItRow : OpenClaim := { program := "qxb6627730a", sum := "aa00984ef2e1b2fa2c63b8b27e82c88a7c8d73c7c2b8a66e6bee0b7973dad808", func := "example.com/ballotlog/ballotlog/zzlaws_internal_load_b1.FnMeanIsTruncatedQuotientAndAppendingItKeepsIt", spec := "fnMeanIsTruncatedQuotientAndAppendingItKeepsIt", apart := false }
def FnMeanIsTruncatedQuotientAndAppendingItKeepsItSaid : Prop := fnMeanIsTruncatedQuotientAndAppendingItKeepsItRow.holds Try.pinned (OpenSpec.ofChange fnMeanIsTruncatedQuotientAndAppendingItKeepsItSpec)

/-- ITS FALSE NEIGHBOUR: 'it returns false'. Refute it at one input. -/
def fnMeanIsTruncatedQuotientAndAppendingItKeepsItWrong : ChangeSpec := { name := "fnMeanIsTruncatedQuotientAndAppendingItKeepsIt", fn := fun _ => fun
  | [d] => { results := [.lit (.bool false)], args := [d] }
  | _ => none }
def FnMeanIsTruncatedQuotientAndAppendingItKeepsItWrongFalsely : Prop := fnMeanIsTruncatedQuotientAndAppendingItKeepsItRow.holds Try.pinned (OpenSpec.ofChange fnMeanIsTruncatedQuotientAndAppendingItKeepsItWrong)

/-- 'zzlaws_internal_load_b1.FnMeanShiftsWithEveryTime': WHATEVER THE INPUT: true; the input reads as it did. -/
def fnMeanShiftsWithEveryTimeSpec : ChangeSpec := { name := "fnMeanShiftsWithEveryTime", fn := fun _ => fun
  | [d1, d2] => { results := [.lit (.bool true)], args := [d1, d2] }
  | _ => none }
def fnMeanShiftsWithEveryTimeRow : OpenClaim := { program := "qxb6627730a", sum := "aa00984ef2e1b2fa2c63b8b27e82c88a7c8d73c7c2b8a66e6bee0b7973dad808", func := "example.com/ballotlog/ballotlog/zzlaws_internal_load_b1.FnMeanShiftsWithEveryTime", spec := "fnMeanShiftsWithEveryTime", apart := false }
def FnMeanShiftsWithEveryTimeSaid : Prop := fnMeanShiftsWithEveryTimeRow.holds Try.pinned (OpenSpec.ofChange fnMeanShiftsWithEveryTimeSpec)

/-- ITS FALSE NEIGHBOUR: 'it returns false'. Refute it at one input. -/
def fnMeanShiftsWithEveryTimeWrong : ChangeSpec := { name := "fnMeanShiftsWithEveryTime", fn := fun _ => fun
  | [d1, d2] => { results := [.lit (.bool false)], args := [d1, d2] }
  | _ => none }
def FnMeanShiftsWithEveryTimeWrongFalsely : Prop := fnMeanShiftsWithEveryTimeRow.holds Try.pinned (OpenSpec.ofChange fnMeanShiftsWithEveryTimeWrong)

end Rows
end Go.Proofs.Qxb6627730a
