/-
  No cell of these rows narrows 'for every input' (looked for: loops, veiled, ifaces, maps, wideKeys, modest, calm, conditions, laid).
  DERIVED. THE GIVEN ROWS OF THIS SEAT. 4 by the template 'for every input the law returns true; each argument reads behind the call as it read before'; 0 by the template 'total and deterministic' (their statements: Qxb6614502aTotals.lean).
  GIVEN WITH THE SEED: the statements are not yours to turn. If you find one false, say at which input.
  Laid BY PROGRAM, IN A SANDBOX (cutbox-rows.mjs): the forced cells as the released guide's own fill.sh prints them over the translation 4d88c40430198cd1… (all of the seat's roots in one cut). By AI agents, Wed Nov 11 2026. No macro, syntax, notation, axiom, sorry.
-/
import Derived.Test.Qxb6614502aChecked
import GoSem.Claim
import GoSem.ClaimJoined
import GoSem.ClaimMapViews
import Derived.JoinedTies
import Derived.KernelRfl
namespace Go.Proofs.Qxb6614502a
/- THE CELL 'sum', in the pinned program and in every row, IS THE sha256 OF THE DUMP (.gsa) THAT Qxb6614502aProg.lean LOADS. Nothing in Lean hashes anything: it is a label: what it is worth is what the hold of that sum in a sandbox is worth. -/
noncomputable def Try.pinned : Pinned := { name := "qxb6614502a", sum := "4d88c40430198cd156a2b32aa35a3629f0833a1ad1ff6587941a4e55d971b00b", checked := Try.checked }
namespace Rows
def none {H : Type} : Left H := { results := [], args := [] }

/-- 'zzlaws_pkg_policy_b1.FnLeastInTwoStepsIsLeastInOne': WHATEVER THE INPUT: true; the input reads as it did. -/
def fnLeastInTwoStepsIsLeastInOneSpec : ChangeSpec := { name := "fnLeastInTwoStepsIsLeastInOne", fn := fun _ => fun
  | [d1, d2, d3, d4, d5, d6, d7] => { results := [.lit (.bool true)], args := [d1, d2, d3, d4, d5, d6, d7] }
  | _ => none }
def fnLeastInTwoStepsIsLeastInOneRow : OpenClaim := { program := "qxb6614502a", sum := "4d88c40430198cd156a2b32aa35a3629f0833a1ad1ff6587941a4e55d971b00b", func := "example.com/tessellate/tessellate/zzlaws_pkg_policy_b1.FnLeastInTwoStepsIsLeastInOne", spec := "fnLeastInTwoStepsIsLeastInOne", inPlace := ["math/bits.Add64"], unfollowed := true, recurses := true, apart := false }
def FnLeastInTwoStepsIsLeastInOneSaid : Prop := fnLeastInTwoStepsIsLeastInOneRow.holds Try.pinned (OpenSpec.ofChange fnLeastInTwoStepsIsLeastInOneSpec)

/-- ITS FALSE NEIGHBOUR: 'it returns false'. Refute it at one input. -/
def fnLeastInTwoStepsIsLeastInOneWrong : ChangeSpec := { name := "fnLeastInTwoStepsIsLeastInOne", fn := fun _ => fun
  | [d1, d2, d3, d4, d5, d6, d7] => { results := [.lit (.bool false)], args := [d1, d2, d3, d4, d5, d6, d7] }
  | _ => none }
def FnLeastInTwoStepsIsLeastInOneWrongFalsely : Prop := fnLeastInTwoStepsIsLeastInOneRow.holds Try.pinned (OpenSpec.ofChange fnLeastInTwoStepsIsLeastInOneWrong)

/-- 'zzlaws_pkg_policy_b1.FnLeastBoundNeverFallsAsJobsAreCounted': WHATEVER THE INPUT: true; the input reads as it did. -/
def fnLeastBoundNeverFallsAsJobsAreCountedSpec : ChangeSpec := { name := "fnLeastBoundNeverFallsAsJobsAreCounted", fn := fun _ => fun
  | [d1, d2, d3, d4, d5, d6, d7] => { results := [.lit (.bool true)], args := [d1, d2, d3, d4, d5, d6, d7] }
  | _ => none }
def fnLeastBoundNeverFallsAsJobsAreCountedRow : OpenClaim := { program := "qxb6614502a", sum := "4d88c40430198cd156a2b32aa35a3629f0833a1ad1ff6587941a4e55d971b00b", func := "example.com/tessellate/tessellate/zzlaws_pkg_policy_b1.FnLeastBoundNeverFallsAsJobsAreCounted", spec := "fnLeastBoundNeverFallsAsJobsAreCounted", inPlace := ["math/bits.Add64"], unfollowed := true, recurses := true, apart := false }
def FnLeastBoundNeverFallsAsJobsAreCountedSaid : Prop := fnLeastBoundNeverFallsAsJobsAreCountedRow.holds Try.pinned (OpenSpec.ofChange fnLeastBoundNeverFallsAsJobsAreCountedSpec)

/-- ITS FALSE NEIGHBOUR: 'it returns false'. Refute it at one input. -/
def fnLeastBoundNeverFallsAsJobsAreCountedWrong : ChangeSpec := { name := "fnLeastBoundNeverFallsAsJobsAreCounted", fn := fun _ => fun
  | [d1, d2, d3, d4, d5, d6, d7] => { results := [.lit (.bool false)], args := [d1, d2, d3, d4, d5, d6, d7] }
  | _ => none }
def FnLeastBoundNeverFallsAsJobsAreCountedWrongFalsely : Prop := fnLeastBoundNeverFallsAsJobsAreCountedRow.holds Try.pinned (OpenSpec.ofChange fnLeastBoundNeverFallsAsJobsAreCountedWrong)

/-- 'zzlaws_pkg_policy_b1.FnBlockKeepsTheLeastWindowsInFirstOrder': WHATEVER THE INPUT: true; the input reads as it did. -/
def fnBlockKeepsTheLeastWindowsInFirstOrderSpec : ChangeSpec := { name := "fnBlockKeepsTheLeastWindowsInFirstOrder", fn := fun _ => fun
  | [d1, d2] => { results := [.lit (.bool true)], args := [d1, d2] }
  | _ => none }
def fnBlockKeepsTheLeastWindowsInFirstOrderRow : OpenClaim := { program := "qxb6614502a", sum := "4d88c40430198cd156a2b32aa35a3629f0833a1ad1ff6587941a4e55d971b00b", func := "example.com/tessellate/tessellate/zzlaws_pkg_policy_b1.FnBlockKeepsTheLeastWindowsInFirstOrder", spec := "fnBlockKeepsTheLeastWindowsInFirstOrder", unfollowed := true, recurses := true, apart := false }
def FnBlockKeepsTheLeastWindowsInFirstOrderSaid : Prop := fnBlockKeepsTheLeastWindowsInFirstOrderRow.holds Try.pinned (OpenSpec.ofChange fnBlockKeepsTheLeastWindowsInFirstOrderSpec)

/-- ITS FALSE NEIGHBOUR: 'it returns false'. Refute it at one input. -/
def fnBlockKeepsTheLeastWindowsInFirstOrderWrong : ChangeSpec := { name := "fnBlockKeepsTheLeastWindowsInFirstOrder", fn := fun _ => fun
  | [d1, d2] => { results := [.lit (.bool false)], args := [d1, d2] }
  | _ => none }
def FnBlockKeepsTheLeastWindowsInFirstOrderWrongFalsely : Prop := fnBlockKeepsTheLeastWindowsInFirstOrderRow.holds Try.pinned (OpenSpec.ofChange fnBlockKeepsTheLeastWindowsInFirstOrderWrong)

/-- 'zzlaws_pkg_policy_b1.FnBlocksAnswersAlikeInEitherOrder': WHATEVER THE INPUT: true; the input reads as it did. -/
def fnBlocksAnswersAlikeInEitherOrderSpec : ChangeSpec := { name := "fnBlocksAnswersAlikeInEitherOrder", fn := fun _ => fun
  | [d1, d2, d3, d4] => { results := [.lit (.bool true)], args := [d1, d2, d3, d4] }
  | _ => none }
def fnBlocksAnswersAlikeInEitherOrderRow : OpenClaim := { program := "qxb6614502a", sum := "4d88c40430198cd156a2b32aa35a3629f0833a1ad1ff6587941a4e55d971b00b", func := "example.com/tessellate/tessellate/zzlaws_pkg_policy_b1.FnBlocksAnswersAlikeInEitherOrder", spec := "fnBlocksAnswersAlikeInEitherOrder", unfollowed := true, recurses := true, apart := false }
def FnBlocksAnswersAlikeInEitherOrderSaid : Prop := fnBlocksAnswersAlikeInEitherOrderRow.holds Try.pinned (OpenSpec.ofChange fnBlocksAnswersAlikeInEitherOrderSpec)

/-- ITS FALSE NEIGHBOUR: 'it returns false'. Refute it at one input. -/
def fnBlocksAnswersAlikeInEitherOrderWrong : ChangeSpec := { name := "fnBlocksAnswersAlikeInEitherOrder", fn := fun _ => fun
  | [d1, d2, d3, d4] => { results := [.lit (.bool false)], args := [d1, d2, d3, d4] }
  | _ => none }
def FnBlocksAnswersAlikeInEitherOrderWrongFalsely : Prop := fnBlocksAnswersAlikeInEitherOrderRow.holds Try.pinned (OpenSpec.ofChange fnBlocksAnswersAlikeInEitherOrderWrong)

end Rows
end Go.Proofs.Qxb6614502a
