/-
  No cell of these rows narrows 'for every input' (looked for: loops, veiled, ifaces, maps, wideKeys, modest, calm, conditions, laid).
  DERIVED. THE GIVEN ROWS OF THIS SEAT. 3 by the template 'for every input the law returns true; each argument reads behind the call as it read before'; 0 by the template 'total and deterministic' (their statements: Qxb6615994aTotals.lean).
  GIVEN WITH THE SEED: the statements are not yours to turn. If you find one false, say at which input.
  Laid BY PROGRAM, IN A SANDBOX (cutbox-rows.mjs): the forced cells as the released guide's own fill.sh prints them over the translation 936e7ca2c996fa04… (all of the seat's roots in one cut). By AI agents, Wed Nov 11 2026. No macro, syntax, notation, axiom, sorry.
-/
import Derived.Test.Qxb6615994aChecked
import GoSem.Claim
import GoSem.ClaimJoined
import GoSem.ClaimMapViews
import Derived.JoinedTies
import Derived.KernelRfl
namespace Go.Proofs.Qxb6615994a
/- THE CELL 'sum', in the pinned program and in every row, IS THE sha256 OF THE DUMP (.gsa) THAT Qxb6615994aProg.lean LOADS. Nothing in Lean hashes anything: it is a label: what it is worth is what the hold of that sum in a sandbox is worth. -/
noncomputable def Try.pinned : Pinned := { name := "qxb6615994a", sum := "936e7ca2c996fa049cc8c060527b001761efc0b1ca32d8bf1cf094953693d0a9", checked := Try.checked }
namespace Rows
def none {H : Type} : Left H := { results := [], args := [] }

/-- 'zzlaws_internal_counter_b1.FnQualifiedIsOneParenthesisedGroup': WHATEVER THE INPUT: true; the input reads as it did. -/
def fnQualifiedIsOneParenthesisedGroupSpec : ChangeSpec := { name := "fnQualifiedIsOneParenthesisedGroup", fn := fun _ => fun
  | [d] => { results := [.lit (.bool true)], args := [d] }
  | _ => none }
def fnQualifiedIsOneParenthesisedGroupRow : OpenClaim := { program := "qxb6615994a", sum := "936e7ca2c996fa049cc8c060527b001761efc0b1ca32d8bf1cf094953693d0a9", func := "example.com/tallykeep/tallykeep/zzlaws_internal_counter_b1.FnQualifiedIsOneParenthesisedGroup", spec := "fnQualifiedIsOneParenthesisedGroup", apart := false }
def FnQualifiedIsOneParenthesisedGroupSaid : Prop := fnQualifiedIsOneParenthesisedGroupRow.holds Try.pinned (OpenSpec.ofChange fnQualifiedIsOneParenthesisedGroupSpec)

/-- ITS FALSE NEIGHBOUR: 'it returns false'. Refute it at one input. -/
def fnQualifiedIsOneParenthesisedGroupWrong : ChangeSpec := { name := "fnQualifiedIsOneParenthesisedGroup", fn := fun _ => fun
  | [d] => { results := [.lit (.bool false)], args := [d] }
  | _ => none }
def FnQualifiedIsOneParenthesisedGroupWrongFalsely : Prop := fnQualifiedIsOneParenthesisedGroupRow.holds Try.pinned (OpenSpec.ofChange fnQualifiedIsOneParenthesisedGroupWrong)

/-- 'zzlaws_internal_counter_b1.FnLiteralReadsBackAsItself': WHATEVER THE INPUT: true; the input reads as it did. -/
def fnLiteralReadsBackAsItselfSpec : ChangeSpec := { name := "fnLiteralReadsBackAsItself", fn := fun _ => fun
  | [d] => { results := [.lit (.bool true)], args := [d] }
  | _ => none }
def fnLiteralReadsBackAsItselfRow : OpenClaim := { program := "qxb6615994a", sum := "936e7ca2c996fa049cc8c060527b001761efc0b1ca32d8bf1cf094953693d0a9", func := "example.com/tallykeep/tallykeep/zzlaws_internal_counter_b1.FnLiteralReadsBackAsItself", spec := "fnLiteralReadsBackAsItself", inPlace := ["sync/atomic.LoadUint32", "(*internal/sync.Mutex).Lock", "internal/race.Disable", "sync/atomic.CompareAndSwapInt32", "internal/race.Enable", "internal/race.Acquire", "(*internal/sync.Mutex).lockSlow", "internal/sync.runtime_canSpin", "internal/sync.runtime_doSpin", "internal/sync.throw", "internal/sync.runtime_nanotime", "internal/sync.runtime_SemacquireMutex", "sync/atomic.AddInt32", "(*internal/sync.Mutex).Unlock", "internal/race.ReleaseMerge", "(*internal/sync.Mutex).unlockSlow", "internal/sync.fatal", "internal/sync.runtime_Semrelease", "sync/atomic.StoreUint32"], unfollowed := true, recurses := true, apart := false }
def FnLiteralReadsBackAsItselfSaid : Prop := fnLiteralReadsBackAsItselfRow.holds Try.pinned (OpenSpec.ofChange fnLiteralReadsBackAsItselfSpec)

/-- ITS FALSE NEIGHBOUR: 'it returns false'. Refute it at one input. -/
def fnLiteralReadsBackAsItselfWrong : ChangeSpec := { name := "fnLiteralReadsBackAsItself", fn := fun _ => fun
  | [d] => { results := [.lit (.bool false)], args := [d] }
  | _ => none }
def FnLiteralReadsBackAsItselfWrongFalsely : Prop := fnLiteralReadsBackAsItselfRow.holds Try.pinned (OpenSpec.ofChange fnLiteralReadsBackAsItselfWrong)

/-- 'zzlaws_internal_counter_b1.FnLiteralSplices': WHATEVER THE INPUT: true; the input reads as it did. -/
def fnLiteralSplicesSpec : ChangeSpec := { name := "fnLiteralSplices", fn := fun _ => fun
  | [d1, d2] => { results := [.lit (.bool true)], args := [d1, d2] }
  | _ => none }
def fnLiteralSplicesRow : OpenClaim := { program := "qxb6615994a", sum := "936e7ca2c996fa049cc8c060527b001761efc0b1ca32d8bf1cf094953693d0a9", func := "example.com/tallykeep/tallykeep/zzlaws_internal_counter_b1.FnLiteralSplices", spec := "fnLiteralSplices", inPlace := ["sync/atomic.LoadUint32", "(*internal/sync.Mutex).Lock", "internal/race.Disable", "sync/atomic.CompareAndSwapInt32", "internal/race.Enable", "internal/race.Acquire", "(*internal/sync.Mutex).lockSlow", "internal/sync.runtime_canSpin", "internal/sync.runtime_doSpin", "internal/sync.throw", "internal/sync.runtime_nanotime", "internal/sync.runtime_SemacquireMutex", "sync/atomic.AddInt32", "(*internal/sync.Mutex).Unlock", "internal/race.ReleaseMerge", "(*internal/sync.Mutex).unlockSlow", "internal/sync.fatal", "internal/sync.runtime_Semrelease", "sync/atomic.StoreUint32"], unfollowed := true, recurses := true, apart := false }
def FnLiteralSplicesSaid : Prop := fnLiteralSplicesRow.holds Try.pinned (OpenSpec.ofChange fnLiteralSplicesSpec)

/-- ITS FALSE NEIGHBOUR: 'it returns false'. Refute it at one input. -/
def fnLiteralSplicesWrong : ChangeSpec := { name := "fnLiteralSplices", fn := fun _ => fun
  | [d1, d2] => { results := [.lit (.bool false)], args := [d1, d2] }
  | _ => none }
def FnLiteralSplicesWrongFalsely : Prop := fnLiteralSplicesRow.holds Try.pinned (OpenSpec.ofChange fnLiteralSplicesWrong)

end Rows
end Go.Proofs.Qxb6615994a
