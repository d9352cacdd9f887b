/-
  No cell of these rows narrows 'for every input' (looked for: loops, veiled, ifaces, maps, wideKeys, modest, calm, conditions, laid).
  DERIVED. THE GIVEN ROWS OF THIS SEAT. 6 by the template 'for every input the law returns true; each argument reads behind the call as it read before'; 0 by the template 'total and deterministic' (their statements: Qxb6613402aTotals.lean).
  GIVEN WITH THE SEED: the statements are not yours to turn. If you find one false, say at which input.
  Laid BY PROGRAM, IN A SANDBOX (cutbox-rows.mjs): the forced cells as the released guide's own fill.sh prints them over the translation d23d9809c80f7977… (all of the seat's roots in one cut). By AI agents, Wed Nov 11 2026. No macro, syntax, notation, axiom, sorry.
-/
import Derived.Test.Qxb6613402aChecked
import GoSem.Claim
import GoSem.ClaimJoined
import GoSem.ClaimMapViews
import Derived.JoinedTies
import Derived.KernelRfl
namespace Go.Proofs.Qxb6613402a
/- THE CELL 'sum', in the pinned program and in every row, IS THE sha256 OF THE DUMP (.gsa) THAT Qxb6613402aProg.lean LOADS. Nothing in Lean hashes anything: it is a label: what it is worth is what the hold of that sum in a sandbox is worth. -/
noncomputable def Try.pinned : Pinned := { name := "qxb6613402a", sum := "d23d9809c80f79773145046b9f3b84bc5843046f07cbc2d2d42af939e5c6fe09", checked := Try.checked }
namespace Rows
def none {H : Type} : Left H := { results := [], args := [] }

/-- 'zzlaws_pkg_schedule_b1.FnWritesLastAgreesWhenAbortsGrow': WHATEVER THE INPUT: true; the input reads as it did. -/
def fnWritesLastAgreesWhenAbortsGrowSpec : ChangeSpec := { name := "fnWritesLastAgreesWhenAbortsGrow", fn := fun _ => fun
  | [d1, d2, d3] => { results := [.lit (.bool true)], args := [d1, d2, d3] }
  | _ => none }
def fnWritesLastAgreesWhenAbortsGrowRow : OpenClaim := { program := "qxb6613402a", sum := "d23d9809c80f79773145046b9f3b84bc5843046f07cbc2d2d42af939e5c6fe09", func := "example.com/interleave/interleave/zzlaws_pkg_schedule_b1.FnWritesLastAgreesWhenAbortsGrow", spec := "fnWritesLastAgreesWhenAbortsGrow", unfollowed := true, recurses := true, apart := false }
def FnWritesLastAgreesWhenAbortsGrowSaid : Prop := fnWritesLastAgreesWhenAbortsGrowRow.holds Try.pinned (OpenSpec.ofChange fnWritesLastAgreesWhenAbortsGrowSpec)

/-- ITS FALSE NEIGHBOUR: 'it returns false'. Refute it at one input. -/
def fnWritesLastAgreesWhenAbortsGrowWrong : ChangeSpec := { name := "fnWritesLastAgreesWhenAbortsGrow", fn := fun _ => fun
  | [d1, d2, d3] => { results := [.lit (.bool false)], args := [d1, d2, d3] }
  | _ => none }
def FnWritesLastAgreesWhenAbortsGrowWrongFalsely : Prop := fnWritesLastAgreesWhenAbortsGrowRow.holds Try.pinned (OpenSpec.ofChange fnWritesLastAgreesWhenAbortsGrowWrong)

/-- 'zzlaws_pkg_schedule_b1.FnWritesLastSeesWritesRecordedAfterForgetting': WHATEVER THE INPUT: true; the input reads as it did. -/
def fnWritesLastSeesWritesRecordedAfterForgettingSpec : ChangeSpec := { name := "fnWritesLastSeesWritesRecordedAfterForgetting", fn := fun _ => fun
  | [d1, d2, d3] => { results := [.lit (.bool true)], args := [d1, d2, d3] }
  | _ => none }
def fnWritesLastSeesWritesRecordedAfterForgettingRow : OpenClaim := { program := "qxb6613402a", sum := "d23d9809c80f79773145046b9f3b84bc5843046f07cbc2d2d42af939e5c6fe09", func := "example.com/interleave/interleave/zzlaws_pkg_schedule_b1.FnWritesLastSeesWritesRecordedAfterForgetting", spec := "fnWritesLastSeesWritesRecordedAfterForgetting", unfollowed := true, recurses := true, apart := false }
def FnWritesLastSeesWritesRecordedAfterForgettingSaid : Prop := fnWritesLastSeesWritesRecordedAfterForgettingRow.holds Try.pinned (OpenSpec.ofChange fnWritesLastSeesWritesRecordedAfterForgettingSpec)

/-- ITS FALSE NEIGHBOUR: 'it returns false'. Refute it at one input. -/
def fnWritesLastSeesWritesRecordedAfterForgettingWrong : ChangeSpec := { name := "fnWritesLastSeesWritesRecordedAfterForgetting", fn := fun _ => fun
  | [d1, d2, d3] => { results := [.lit (.bool false)], args := [d1, d2, d3] }
  | _ => none }
def FnWritesLastSeesWritesRecordedAfterForgettingWrongFalsely : Prop := fnWritesLastSeesWritesRecordedAfterForgettingRow.holds Try.pinned (OpenSpec.ofChange fnWritesLastSeesWritesRecordedAfterForgettingWrong)

/-- 'zzlaws_pkg_schedule_b1.FnSourceTreeInsertBuildsTreap': WHATEVER THE INPUT: true; the input reads as it did. -/
def fnSourceTreeInsertBuildsTreapSpec : ChangeSpec := { name := "fnSourceTreeInsertBuildsTreap", fn := fun _ => fun
  | [d1, d2, d3] => { results := [.lit (.bool true)], args := [d1, d2, d3] }
  | _ => none }
def fnSourceTreeInsertBuildsTreapRow : OpenClaim := { program := "qxb6613402a", sum := "d23d9809c80f79773145046b9f3b84bc5843046f07cbc2d2d42af939e5c6fe09", func := "example.com/interleave/interleave/zzlaws_pkg_schedule_b1.FnSourceTreeInsertBuildsTreap", spec := "fnSourceTreeInsertBuildsTreap", recurses := true, apart := false }
def FnSourceTreeInsertBuildsTreapSaid : Prop := fnSourceTreeInsertBuildsTreapRow.holds Try.pinned (OpenSpec.ofChange fnSourceTreeInsertBuildsTreapSpec)

/-- ITS FALSE NEIGHBOUR: 'it returns false'. Refute it at one input. -/
def fnSourceTreeInsertBuildsTreapWrong : ChangeSpec := { name := "fnSourceTreeInsertBuildsTreap", fn := fun _ => fun
  | [d1, d2, d3] => { results := [.lit (.bool false)], args := [d1, d2, d3] }
  | _ => none }
def FnSourceTreeInsertBuildsTreapWrongFalsely : Prop := fnSourceTreeInsertBuildsTreapRow.holds Try.pinned (OpenSpec.ofChange fnSourceTreeInsertBuildsTreapWrong)

/-- 'zzlaws_pkg_schedule_b1.FnSourceTreeInsertOrderFree': WHATEVER THE INPUT: true; the input reads as it did. -/
def fnSourceTreeInsertOrderFreeSpec : ChangeSpec := { name := "fnSourceTreeInsertOrderFree", fn := fun _ => fun
  | [d1, d2, d3, d4] => { results := [.lit (.bool true)], args := [d1, d2, d3, d4] }
  | _ => none }
def fnSourceTreeInsertOrderFreeRow : OpenClaim := { program := "qxb6613402a", sum := "d23d9809c80f79773145046b9f3b84bc5843046f07cbc2d2d42af939e5c6fe09", func := "example.com/interleave/interleave/zzlaws_pkg_schedule_b1.FnSourceTreeInsertOrderFree", spec := "fnSourceTreeInsertOrderFree", recurses := true, apart := false }
def FnSourceTreeInsertOrderFreeSaid : Prop := fnSourceTreeInsertOrderFreeRow.holds Try.pinned (OpenSpec.ofChange fnSourceTreeInsertOrderFreeSpec)

/-- ITS FALSE NEIGHBOUR: 'it returns false'. Refute it at one input. -/
def fnSourceTreeInsertOrderFreeWrong : ChangeSpec := { name := "fnSourceTreeInsertOrderFree", fn := fun _ => fun
  | [d1, d2, d3, d4] => { results := [.lit (.bool false)], args := [d1, d2, d3, d4] }
  | _ => none }
def FnSourceTreeInsertOrderFreeWrongFalsely : Prop := fnSourceTreeInsertOrderFreeRow.holds Try.pinned (OpenSpec.ofChange fnSourceTreeInsertOrderFreeWrong)

/-- 'zzlaws_pkg_schedule_b1.FnSourceTreeWithoutRemovesOne': WHATEVER THE INPUT: true; the input reads as it did. -/
def fnSourceTreeWithoutRemovesOneSpec : ChangeSpec := { name := "fnSourceTreeWithoutRemovesOne", fn := fun _ => fun
  | [d1, d2, d3, d4] => { results := [.lit (.bool true)], args := [d1, d2, d3, d4] }
  | _ => none }
def fnSourceTreeWithoutRemovesOneRow : OpenClaim := { program := "qxb6613402a", sum := "d23d9809c80f79773145046b9f3b84bc5843046f07cbc2d2d42af939e5c6fe09", func := "example.com/interleave/interleave/zzlaws_pkg_schedule_b1.FnSourceTreeWithoutRemovesOne", spec := "fnSourceTreeWithoutRemovesOne", recurses := true, apart := false }
def FnSourceTreeWithoutRemovesOneSaid : Prop := fnSourceTreeWithoutRemovesOneRow.holds Try.pinned (OpenSpec.ofChange fnSourceTreeWithoutRemovesOneSpec)

/-- ITS FALSE NEIGHBOUR: 'it returns false'. Refute it at one input. -/
def fnSourceTreeWithoutRemovesOneWrong : ChangeSpec := { name := "fnSourceTreeWithoutRemovesOne", fn := fun _ => fun
  | [d1, d2, d3, d4] => { results := [.lit (.bool false)], args := [d1, d2, d3, d4] }
  | _ => none }
def FnSourceTreeWithoutRemovesOneWrongFalsely : Prop := fnSourceTreeWithoutRemovesOneRow.holds Try.pinned (OpenSpec.ofChange fnSourceTreeWithoutRemovesOneWrong)

/-- 'zzlaws_pkg_schedule_b1.FnSourceTreeWithoutUndoesInsert': WHATEVER THE INPUT: true; the input reads as it did. -/
def fnSourceTreeWithoutUndoesInsertSpec : ChangeSpec := { name := "fnSourceTreeWithoutUndoesInsert", fn := fun _ => fun
  | [d1, d2, d3, d4] => { results := [.lit (.bool true)], args := [d1, d2, d3, d4] }
  | _ => none }
def fnSourceTreeWithoutUndoesInsertRow : OpenClaim := { program := "qxb6613402a", sum := "d23d9809c80f79773145046b9f3b84bc5843046f07cbc2d2d42af939e5c6fe09", func := "example.com/interleave/interleave/zzlaws_pkg_schedule_b1.FnSourceTreeWithoutUndoesInsert", spec := "fnSourceTreeWithoutUndoesInsert", recurses := true, apart := false }
def FnSourceTreeWithoutUndoesInsertSaid : Prop := fnSourceTreeWithoutUndoesInsertRow.holds Try.pinned (OpenSpec.ofChange fnSourceTreeWithoutUndoesInsertSpec)

/-- ITS FALSE NEIGHBOUR: 'it returns false'. Refute it at one input. -/
def fnSourceTreeWithoutUndoesInsertWrong : ChangeSpec := { name := "fnSourceTreeWithoutUndoesInsert", fn := fun _ => fun
  | [d1, d2, d3, d4] => { results := [.lit (.bool false)], args := [d1, d2, d3, d4] }
  | _ => none }
def FnSourceTreeWithoutUndoesInsertWrongFalsely : Prop := fnSourceTreeWithoutUndoesInsertRow.holds Try.pinned (OpenSpec.ofChange fnSourceTreeWithoutUndoesInsertWrong)

end Rows
end Go.Proofs.Qxb6613402a
