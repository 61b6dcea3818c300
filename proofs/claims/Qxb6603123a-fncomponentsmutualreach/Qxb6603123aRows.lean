/-
  No cell of these rows narrows 'for every input' (looked for: loops, veiled, ifaces, maps, wideKeys, modest, calm, conditions, laid).
  DERIVED. THE GIVEN ROWS OF THIS SEAT. 4 by the template 'for every input the law returns true; each argument reads behind the call as it read before'; 0 by the template 'total and deterministic' (their statements: Qxb6603123aTotals.lean).
  GIVEN WITH THE SEED: the statements are not yours to turn. If you find one false, say at which input.
  Laid BY PROGRAM, IN A SANDBOX (cutbox-rows.mjs): the forced cells as the released guide's own fill.sh prints them over the translation 06bc3c677a528363… (all of the seat's roots in one cut). By AI agents, Wed Nov 11 2026. No macro, syntax, notation, axiom, sorry.
-/
import Derived.Test.Qxb6603123aChecked
import GoSem.Claim
import GoSem.ClaimJoined
import GoSem.ClaimMapViews
import Derived.JoinedTies
import Derived.KernelRfl
namespace Go.Proofs.Qxb6603123a
/- THE CELL 'sum', in the pinned program and in every row, IS THE sha256 OF THE DUMP (.gsa) THAT Qxb6603123aProg.lean LOADS. Nothing in Lean hashes anything: it is a label: what it is worth is what the hold of that sum in a sandbox is worth. -/
noncomputable def Try.pinned : Pinned := { name := "qxb6603123a", sum := "06bc3c677a5283633cd4694ee6f3f2aa7433eec62150c3dc9c6ec9666c1f2d9c", checked := Try.checked }
namespace Rows
def none {H : Type} : Left H := { results := [], args := [] }

/-- 'zzlaws_internal_check_b1.FnComponentsMutualReach': WHATEVER THE INPUT: true; the input reads as it did. -/
def fnComponentsMutualReachSpec : ChangeSpec := { name := "fnComponentsMutualReach", fn := fun _ => fun
  | [d] => { results := [.lit (.bool true)], args := [d] }
  | _ => none }
def fnComponentsMutualReachRow : OpenClaim := { program := "qxb6603123a", sum := "06bc3c677a5283633cd4694ee6f3f2aa7433eec62150c3dc9c6ec9666c1f2d9c", func := "example.com/consort/consort/zzlaws_internal_check_b1.FnComponentsMutualReach", spec := "fnComponentsMutualReach", unfollowed := true, recurses := true, apart := false }
def FnComponentsMutualReachSaid : Prop := fnComponentsMutualReachRow.holds Try.pinned (OpenSpec.ofChange fnComponentsMutualReachSpec)

/-- ITS FALSE NEIGHBOUR: 'it returns false'. Refute it at one input. -/
def fnComponentsMutualReachWrong : ChangeSpec := { name := "fnComponentsMutualReach", fn := fun _ => fun
  | [d] => { results := [.lit (.bool false)], args := [d] }
  | _ => none }
def FnComponentsMutualReachWrongFalsely : Prop := fnComponentsMutualReachRow.holds Try.pinned (OpenSpec.ofChange fnComponentsMutualReachWrong)

/-- 'zzlaws_internal_check_b1.FnComponentsTransposeAgree': WHATEVER THE INPUT: true; the input reads as it did. -/
def fnComponentsTransposeAgreeSpec : ChangeSpec := { name := "fnComponentsTransposeAgree", fn := fun _ => fun
  | [d] => { results := [.lit (.bool true)], args := [d] }
  | _ => none }
def fnComponentsTransposeAgreeRow : OpenClaim := { program := "qxb6603123a", sum := "06bc3c677a5283633cd4694ee6f3f2aa7433eec62150c3dc9c6ec9666c1f2d9c", func := "example.com/consort/consort/zzlaws_internal_check_b1.FnComponentsTransposeAgree", spec := "fnComponentsTransposeAgree", unfollowed := true, recurses := true, apart := false }
def FnComponentsTransposeAgreeSaid : Prop := fnComponentsTransposeAgreeRow.holds Try.pinned (OpenSpec.ofChange fnComponentsTransposeAgreeSpec)

/-- ITS FALSE NEIGHBOUR: 'it returns false'. Refute it at one input. -/
def fnComponentsTransposeAgreeWrong : ChangeSpec := { name := "fnComponentsTransposeAgree", fn := fun _ => fun
  | [d] => { results := [.lit (.bool false)], args := [d] }
  | _ => none }
def FnComponentsTransposeAgreeWrongFalsely : Prop := fnComponentsTransposeAgreeRow.holds Try.pinned (OpenSpec.ofChange fnComponentsTransposeAgreeWrong)

/-- 'zzlaws_internal_check_b1.FnShortestCycleIsShortest': WHATEVER THE INPUT: true; the input reads as it did. -/
def fnShortestCycleIsShortestSpec : ChangeSpec := { name := "fnShortestCycleIsShortest", fn := fun _ => fun
  | [d1, d2, d3, d4, d5, d6] => { results := [.lit (.bool true)], args := [d1, d2, d3, d4, d5, d6] }
  | _ => none }
def fnShortestCycleIsShortestRow : OpenClaim := { program := "qxb6603123a", sum := "06bc3c677a5283633cd4694ee6f3f2aa7433eec62150c3dc9c6ec9666c1f2d9c", func := "example.com/consort/consort/zzlaws_internal_check_b1.FnShortestCycleIsShortest", spec := "fnShortestCycleIsShortest", apart := false }
def FnShortestCycleIsShortestSaid : Prop := fnShortestCycleIsShortestRow.holds Try.pinned (OpenSpec.ofChange fnShortestCycleIsShortestSpec)

/-- ITS FALSE NEIGHBOUR: 'it returns false'. Refute it at one input. -/
def fnShortestCycleIsShortestWrong : ChangeSpec := { name := "fnShortestCycleIsShortest", fn := fun _ => fun
  | [d1, d2, d3, d4, d5, d6] => { results := [.lit (.bool false)], args := [d1, d2, d3, d4, d5, d6] }
  | _ => none }
def FnShortestCycleIsShortestWrongFalsely : Prop := fnShortestCycleIsShortestRow.holds Try.pinned (OpenSpec.ofChange fnShortestCycleIsShortestWrong)

/-- 'zzlaws_internal_check_b1.FnShortestCycleAgreesWithComponents': WHATEVER THE INPUT: true; the input reads as it did. -/
def fnShortestCycleAgreesWithComponentsSpec : ChangeSpec := { name := "fnShortestCycleAgreesWithComponents", fn := fun _ => fun
  | [d1, d2, d3, d4, d5] => { results := [.lit (.bool true)], args := [d1, d2, d3, d4, d5] }
  | _ => none }
def fnShortestCycleAgreesWithComponentsRow : OpenClaim := { program := "qxb6603123a", sum := "06bc3c677a5283633cd4694ee6f3f2aa7433eec62150c3dc9c6ec9666c1f2d9c", func := "example.com/consort/consort/zzlaws_internal_check_b1.FnShortestCycleAgreesWithComponents", spec := "fnShortestCycleAgreesWithComponents", unfollowed := true, recurses := true, apart := false }
def FnShortestCycleAgreesWithComponentsSaid : Prop := fnShortestCycleAgreesWithComponentsRow.holds Try.pinned (OpenSpec.ofChange fnShortestCycleAgreesWithComponentsSpec)

/-- ITS FALSE NEIGHBOUR: 'it returns false'. Refute it at one input. -/
def fnShortestCycleAgreesWithComponentsWrong : ChangeSpec := { name := "fnShortestCycleAgreesWithComponents", fn := fun _ => fun
  | [d1, d2, d3, d4, d5] => { results := [.lit (.bool false)], args := [d1, d2, d3, d4, d5] }
  | _ => none }
def FnShortestCycleAgreesWithComponentsWrongFalsely : Prop := fnShortestCycleAgreesWithComponentsRow.holds Try.pinned (OpenSpec.ofChange fnShortestCycleAgreesWithComponentsWrong)

end Rows
end Go.Proofs.Qxb6603123a
