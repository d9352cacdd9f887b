/-
  No cell of these rows narrows 'for every input' (looked for: loops, veiled, ifaces, maps, wideKeys, modest, calm, conditions, laid).
  DERIVED. THE GIVEN ROWS OF THIS SEAT. 4 by the template 'for every input the law returns true; each argument reads behind the call as it read before'; 0 by the template 'total and deterministic' (their statements: Qxb6613559aTotals.lean).
  GIVEN WITH THE SEED: the statements are not yours to turn. If you find one false, say at which input.
  Laid BY PROGRAM, IN A SANDBOX (cutbox-rows.mjs): the forced cells as the released guide's own fill.sh prints them over the translation 42c4e9c2e14551e2… (all of the seat's roots in one cut). By AI agents, Wed Nov 11 2026. No macro, syntax, notation, axiom, sorry.
-/
import Derived.Test.Qxb6613559aChecked
import GoSem.Claim
import GoSem.ClaimJoined
import GoSem.ClaimMapViews
import Derived.JoinedTies
import Derived.KernelRfl
namespace Go.Proofs.Qxb6613559a
/- THE CELL 'sum', in the pinned program and in every row, IS THE sha256 OF THE DUMP (.gsa) THAT Qxb6613559aProg.lean LOADS. Nothing in Lean hashes anything: it is a label: what it is worth is what the hold of that sum in a sandbox is worth. -/
noncomputable def Try.pinned : Pinned := { name := "qxb6613559a", sum := "42c4e9c2e14551e247165d6481c78b3b78156ea83d954f5bc61711b08a0dfd3e", checked := Try.checked }
namespace Rows
def none {H : Type} : Left H := { results := [], args := [] }

/-- 'zzlaws_root_b1.FnUnholdTakesTheHeldJobOnce': WHATEVER THE INPUT: true; the input reads as it did. -/
def fnUnholdTakesTheHeldJobOnceSpec : ChangeSpec := { name := "fnUnholdTakesTheHeldJobOnce", fn := fun _ => fun
  | [d1, d2] => { results := [.lit (.bool true)], args := [d1, d2] }
  | _ => none }
def fnUnholdTakesTheHeldJobOnceRow : OpenClaim := { program := "qxb6613559a", sum := "42c4e9c2e14551e247165d6481c78b3b78156ea83d954f5bc61711b08a0dfd3e", func := "example.com/wary-lock/wary-lock/zzlaws_root_b1.FnUnholdTakesTheHeldJobOnce", spec := "fnUnholdTakesTheHeldJobOnce", inPlace := ["(*internal/sync.Mutex).Lock", "internal/race.Disable", "sync/atomic.CompareAndSwapInt32", "internal/race.Enable", "internal/race.Acquire", "(*internal/sync.Mutex).lockSlow", "internal/sync.runtime_canSpin", "internal/sync.runtime_doSpin", "internal/sync.throw", "internal/sync.runtime_nanotime", "internal/sync.runtime_SemacquireMutex", "sync/atomic.AddInt32", "(*internal/sync.Mutex).Unlock", "internal/race.ReleaseMerge", "(*internal/sync.Mutex).unlockSlow", "internal/sync.fatal", "internal/sync.runtime_Semrelease"], plainKeys := false, apart := false }
def FnUnholdTakesTheHeldJobOnceSaid : Prop := fnUnholdTakesTheHeldJobOnceRow.holds Try.pinned (OpenSpec.ofChange fnUnholdTakesTheHeldJobOnceSpec)

/-- ITS FALSE NEIGHBOUR: 'it returns false'. Refute it at one input. -/
def fnUnholdTakesTheHeldJobOnceWrong : ChangeSpec := { name := "fnUnholdTakesTheHeldJobOnce", fn := fun _ => fun
  | [d1, d2] => { results := [.lit (.bool false)], args := [d1, d2] }
  | _ => none }
def FnUnholdTakesTheHeldJobOnceWrongFalsely : Prop := fnUnholdTakesTheHeldJobOnceRow.holds Try.pinned (OpenSpec.ofChange fnUnholdTakesTheHeldJobOnceWrong)

/-- 'zzlaws_root_b1.FnUnholdScriptGivesEachJobOnce': WHATEVER THE INPUT: true; the input reads as it did. -/
def fnUnholdScriptGivesEachJobOnceSpec : ChangeSpec := { name := "fnUnholdScriptGivesEachJobOnce", fn := fun _ => fun
  | [d1, d2] => { results := [.lit (.bool true)], args := [d1, d2] }
  | _ => none }
def fnUnholdScriptGivesEachJobOnceRow : OpenClaim := { program := "qxb6613559a", sum := "42c4e9c2e14551e247165d6481c78b3b78156ea83d954f5bc61711b08a0dfd3e", func := "example.com/wary-lock/wary-lock/zzlaws_root_b1.FnUnholdScriptGivesEachJobOnce", spec := "fnUnholdScriptGivesEachJobOnce", inPlace := ["(*internal/sync.Mutex).Lock", "internal/race.Disable", "sync/atomic.CompareAndSwapInt32", "internal/race.Enable", "internal/race.Acquire", "(*internal/sync.Mutex).lockSlow", "internal/sync.runtime_canSpin", "internal/sync.runtime_doSpin", "internal/sync.throw", "internal/sync.runtime_nanotime", "internal/sync.runtime_SemacquireMutex", "sync/atomic.AddInt32", "(*internal/sync.Mutex).Unlock", "internal/race.ReleaseMerge", "(*internal/sync.Mutex).unlockSlow", "internal/sync.fatal", "internal/sync.runtime_Semrelease"], plainKeys := false, apart := false }
def FnUnholdScriptGivesEachJobOnceSaid : Prop := fnUnholdScriptGivesEachJobOnceRow.holds Try.pinned (OpenSpec.ofChange fnUnholdScriptGivesEachJobOnceSpec)

/-- ITS FALSE NEIGHBOUR: 'it returns false'. Refute it at one input. -/
def fnUnholdScriptGivesEachJobOnceWrong : ChangeSpec := { name := "fnUnholdScriptGivesEachJobOnce", fn := fun _ => fun
  | [d1, d2] => { results := [.lit (.bool false)], args := [d1, d2] }
  | _ => none }
def FnUnholdScriptGivesEachJobOnceWrongFalsely : Prop := fnUnholdScriptGivesEachJobOnceRow.holds Try.pinned (OpenSpec.ofChange fnUnholdScriptGivesEachJobOnceWrong)

/-- 'zzlaws_root_b1.FnKeyTTLWholeMillisecondsShift': WHATEVER THE INPUT: true; the input reads as it did. -/
def fnKeyTTLWholeMillisecondsShiftSpec : ChangeSpec := { name := "fnKeyTTLWholeMillisecondsShift", fn := fun _ => fun
  | [d1, d2] => { results := [.lit (.bool true)], args := [d1, d2] }
  | _ => none }
def fnKeyTTLWholeMillisecondsShiftRow : OpenClaim := { program := "qxb6613559a", sum := "42c4e9c2e14551e247165d6481c78b3b78156ea83d954f5bc61711b08a0dfd3e", func := "example.com/wary-lock/wary-lock/zzlaws_root_b1.FnKeyTTLWholeMillisecondsShift", spec := "fnKeyTTLWholeMillisecondsShift", plainKeys := false, apart := false }
def FnKeyTTLWholeMillisecondsShiftSaid : Prop := fnKeyTTLWholeMillisecondsShiftRow.holds Try.pinned (OpenSpec.ofChange fnKeyTTLWholeMillisecondsShiftSpec)

/-- ITS FALSE NEIGHBOUR: 'it returns false'. Refute it at one input. -/
def fnKeyTTLWholeMillisecondsShiftWrong : ChangeSpec := { name := "fnKeyTTLWholeMillisecondsShift", fn := fun _ => fun
  | [d1, d2] => { results := [.lit (.bool false)], args := [d1, d2] }
  | _ => none }
def FnKeyTTLWholeMillisecondsShiftWrongFalsely : Prop := fnKeyTTLWholeMillisecondsShiftRow.holds Try.pinned (OpenSpec.ofChange fnKeyTTLWholeMillisecondsShiftWrong)

/-- 'zzlaws_root_b1.FnKeyTTLMonotoneIdempotent': WHATEVER THE INPUT: true; the input reads as it did. -/
def fnKeyTTLMonotoneIdempotentSpec : ChangeSpec := { name := "fnKeyTTLMonotoneIdempotent", fn := fun _ => fun
  | [d1, d2] => { results := [.lit (.bool true)], args := [d1, d2] }
  | _ => none }
def fnKeyTTLMonotoneIdempotentRow : OpenClaim := { program := "qxb6613559a", sum := "42c4e9c2e14551e247165d6481c78b3b78156ea83d954f5bc61711b08a0dfd3e", func := "example.com/wary-lock/wary-lock/zzlaws_root_b1.FnKeyTTLMonotoneIdempotent", spec := "fnKeyTTLMonotoneIdempotent", plainKeys := false, apart := false }
def FnKeyTTLMonotoneIdempotentSaid : Prop := fnKeyTTLMonotoneIdempotentRow.holds Try.pinned (OpenSpec.ofChange fnKeyTTLMonotoneIdempotentSpec)

/-- ITS FALSE NEIGHBOUR: 'it returns false'. Refute it at one input. -/
def fnKeyTTLMonotoneIdempotentWrong : ChangeSpec := { name := "fnKeyTTLMonotoneIdempotent", fn := fun _ => fun
  | [d1, d2] => { results := [.lit (.bool false)], args := [d1, d2] }
  | _ => none }
def FnKeyTTLMonotoneIdempotentWrongFalsely : Prop := fnKeyTTLMonotoneIdempotentRow.holds Try.pinned (OpenSpec.ofChange fnKeyTTLMonotoneIdempotentWrong)

end Rows
end Go.Proofs.Qxb6613559a
