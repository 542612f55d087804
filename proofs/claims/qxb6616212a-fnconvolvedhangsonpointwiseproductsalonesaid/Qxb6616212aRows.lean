/-
  No cell of these rows narrows 'for every input' (looked for: loops, veiled, ifaces, maps, wideKeys, modest, calm, conditions, laid).
  DERIVED. THE GIVEN ROWS OF THIS SEAT. 4 by the template 'for every input the law returns true; each argument reads behind the call as it read before'; 0 by the template 'total and deterministic' (their statements: Qxb6616212aTotals.lean).
  GIVEN WITH THE SEED: the statements are not yours to turn. If you find one false, say at which input.
  Laid BY PROGRAM, IN A SANDBOX (cutbox-rows.mjs): the forced cells as the released guide's own fill.sh prints them over the translation f9f76960a4421916… (all of the seat's roots in one cut). By AI agents, Wed Nov 11 2026. No macro, syntax, notation, axiom, sorry.
-/
import Derived.Test.Qxb6616212aChecked
import GoSem.Claim
import GoSem.ClaimJoined
import GoSem.ClaimMapViews
import Derived.JoinedTies
import Derived.KernelRfl
namespace Go.Proofs.Qxb6616212a
/- THE CELL 'sum', in the pinned program and in every row, IS THE sha256 OF THE DUMP (.gsa) THAT Qxb6616212aProg.lean LOADS. Nothing in Lean hashes anything: it is a label: what it is worth is what the hold of that sum in a sandbox is worth. -/
noncomputable def Try.pinned : Pinned := { name := "qxb6616212a", sum := "f9f76960a4421916b827c270af57db5c48d05735a4732c00c05e7ea3cbb976c5", checked := Try.checked }
namespace Rows
def none {H : Type} : Left H := { results := [], args := [] }

/-- 'zzlaws_root_b1.FnLineLimbsCountsBase1e18DigitsOfLongestCoefficient': WHATEVER THE INPUT: true; the input reads as it did. -/
def fnLineLimbsCountsBase1e18DigitsOfLongestCoefficientSpec : ChangeSpec := { name := "fnLineLimbsCountsBase1e18DigitsOfLongestCoefficient", fn := fun _ => fun
  | [d1, d2, d3, d4, d5, d6, d7, d8, d9, d10, d11, d12] => { results := [.lit (.bool true)], args := [d1, d2, d3, d4, d5, d6, d7, d8, d9, d10, d11, d12] }
  | _ => none }
def fnLineLimbsCountsBase1e18DigitsOfLongestCoefficientRow : OpenClaim := { program := "qxb6616212a", sum := "f9f76960a4421916b827c270af57db5c48d05735a4732c00c05e7ea3cbb976c5", func := "example.com/margincall/margincall/zzlaws_root_b1.FnLineLimbsCountsBase1e18DigitsOfLongestCoefficient", spec := "fnLineLimbsCountsBase1e18DigitsOfLongestCoefficient", inPlace := ["math/bits.Sub64"], apart := false }
def FnLineLimbsCountsBase1e18DigitsOfLongestCoefficientSaid : Prop := fnLineLimbsCountsBase1e18DigitsOfLongestCoefficientRow.holds Try.pinned (OpenSpec.ofChange fnLineLimbsCountsBase1e18DigitsOfLongestCoefficientSpec)

/-- ITS FALSE NEIGHBOUR: 'it returns false'. Refute it at one input. -/
def fnLineLimbsCountsBase1e18DigitsOfLongestCoefficientWrong : ChangeSpec := { name := "fnLineLimbsCountsBase1e18DigitsOfLongestCoefficient", fn := fun _ => fun
  | [d1, d2, d3, d4, d5, d6, d7, d8, d9, d10, d11, d12] => { results := [.lit (.bool false)], args := [d1, d2, d3, d4, d5, d6, d7, d8, d9, d10, d11, d12] }
  | _ => none }
def FnLineLimbsCountsBase1e18DigitsOfLongestCoefficientWrongFalsely : Prop := fnLineLimbsCountsBase1e18DigitsOfLongestCoefficientRow.holds Try.pinned (OpenSpec.ofChange fnLineLimbsCountsBase1e18DigitsOfLongestCoefficientWrong)

/-- 'zzlaws_root_b1.FnLineLimbsZeroOnlyAtZeroAndBlindToSignAndOrder': WHATEVER THE INPUT: true; the input reads as it did. -/
def fnLineLimbsZeroOnlyAtZeroAndBlindToSignAndOrderSpec : ChangeSpec := { name := "fnLineLimbsZeroOnlyAtZeroAndBlindToSignAndOrder", fn := fun _ => fun
  | [d1, d2, d3, d4, d5, d6] => { results := [.lit (.bool true)], args := [d1, d2, d3, d4, d5, d6] }
  | _ => none }
def fnLineLimbsZeroOnlyAtZeroAndBlindToSignAndOrderRow : OpenClaim := { program := "qxb6616212a", sum := "f9f76960a4421916b827c270af57db5c48d05735a4732c00c05e7ea3cbb976c5", func := "example.com/margincall/margincall/zzlaws_root_b1.FnLineLimbsZeroOnlyAtZeroAndBlindToSignAndOrder", spec := "fnLineLimbsZeroOnlyAtZeroAndBlindToSignAndOrder", inPlace := ["math/bits.Sub64"], apart := false }
def FnLineLimbsZeroOnlyAtZeroAndBlindToSignAndOrderSaid : Prop := fnLineLimbsZeroOnlyAtZeroAndBlindToSignAndOrderRow.holds Try.pinned (OpenSpec.ofChange fnLineLimbsZeroOnlyAtZeroAndBlindToSignAndOrderSpec)

/-- ITS FALSE NEIGHBOUR: 'it returns false'. Refute it at one input. -/
def fnLineLimbsZeroOnlyAtZeroAndBlindToSignAndOrderWrong : ChangeSpec := { name := "fnLineLimbsZeroOnlyAtZeroAndBlindToSignAndOrder", fn := fun _ => fun
  | [d1, d2, d3, d4, d5, d6] => { results := [.lit (.bool false)], args := [d1, d2, d3, d4, d5, d6] }
  | _ => none }
def FnLineLimbsZeroOnlyAtZeroAndBlindToSignAndOrderWrongFalsely : Prop := fnLineLimbsZeroOnlyAtZeroAndBlindToSignAndOrderRow.holds Try.pinned (OpenSpec.ofChange fnLineLimbsZeroOnlyAtZeroAndBlindToSignAndOrderWrong)

/-- 'zzlaws_root_b1.FnConvolvedKeepsMeanAndSumOfPointwiseProducts': WHATEVER THE INPUT: true; the input reads as it did. -/
def fnConvolvedKeepsMeanAndSumOfPointwiseProductsSpec : ChangeSpec := { name := "fnConvolvedKeepsMeanAndSumOfPointwiseProducts", fn := fun _ => fun
  | [d1, d2, d3, d4, d5, d6, d7, d8] => { results := [.lit (.bool true)], args := [d1, d2, d3, d4, d5, d6, d7, d8] }
  | _ => none }
def fnConvolvedKeepsMeanAndSumOfPointwiseProductsRow : OpenClaim := { program := "qxb6616212a", sum := "f9f76960a4421916b827c270af57db5c48d05735a4732c00c05e7ea3cbb976c5", func := "example.com/margincall/margincall/zzlaws_root_b1.FnConvolvedKeepsMeanAndSumOfPointwiseProducts", spec := "fnConvolvedKeepsMeanAndSumOfPointwiseProducts", inPlace := ["math/bits.Sub64", "(*internal/sync.Mutex).Lock", "internal/race.Disable", "sync/atomic.CompareAndSwapInt32", "internal/race.Enable", "internal/race.Acquire", "(*internal/sync.Mutex).lockSlow", "internal/sync.runtime_canSpin", "internal/sync.runtime_doSpin", "internal/sync.throw", "internal/sync.runtime_nanotime", "internal/sync.runtime_SemacquireMutex", "sync/atomic.AddInt32", "(*internal/sync.Mutex).Unlock", "internal/race.ReleaseMerge", "(*internal/sync.Mutex).unlockSlow", "internal/sync.fatal", "internal/sync.runtime_Semrelease"], unfollowed := true, recurses := true, named := ["math/bits.divideError", "math/bits.overflowError"], apart := false }
def FnConvolvedKeepsMeanAndSumOfPointwiseProductsSaid : Prop := fnConvolvedKeepsMeanAndSumOfPointwiseProductsRow.holds Try.pinned (OpenSpec.ofChange fnConvolvedKeepsMeanAndSumOfPointwiseProductsSpec)

/-- ITS FALSE NEIGHBOUR: 'it returns false'. Refute it at one input. -/
def fnConvolvedKeepsMeanAndSumOfPointwiseProductsWrong : ChangeSpec := { name := "fnConvolvedKeepsMeanAndSumOfPointwiseProducts", fn := fun _ => fun
  | [d1, d2, d3, d4, d5, d6, d7, d8] => { results := [.lit (.bool false)], args := [d1, d2, d3, d4, d5, d6, d7, d8] }
  | _ => none }
def FnConvolvedKeepsMeanAndSumOfPointwiseProductsWrongFalsely : Prop := fnConvolvedKeepsMeanAndSumOfPointwiseProductsRow.holds Try.pinned (OpenSpec.ofChange fnConvolvedKeepsMeanAndSumOfPointwiseProductsWrong)

/-- 'zzlaws_root_b1.FnConvolvedHangsOnPointwiseProductsAlone': WHATEVER THE INPUT: true; the input reads as it did. -/
def fnConvolvedHangsOnPointwiseProductsAloneSpec : ChangeSpec := { name := "fnConvolvedHangsOnPointwiseProductsAlone", fn := fun _ => fun
  | [d1, d2, d3, d4, d5, d6, d7, d8] => { results := [.lit (.bool true)], args := [d1, d2, d3, d4, d5, d6, d7, d8] }
  | _ => none }
def fnConvolvedHangsOnPointwiseProductsAloneRow : OpenClaim := { program := "qxb6616212a", sum := "f9f76960a4421916b827c270af57db5c48d05735a4732c00c05e7ea3cbb976c5", func := "example.com/margincall/margincall/zzlaws_root_b1.FnConvolvedHangsOnPointwiseProductsAlone", spec := "fnConvolvedHangsOnPointwiseProductsAlone", inPlace := ["math/bits.Sub64", "(*internal/sync.Mutex).Lock", "internal/race.Disable", "sync/atomic.CompareAndSwapInt32", "internal/race.Enable", "internal/race.Acquire", "(*internal/sync.Mutex).lockSlow", "internal/sync.runtime_canSpin", "internal/sync.runtime_doSpin", "internal/sync.throw", "internal/sync.runtime_nanotime", "internal/sync.runtime_SemacquireMutex", "sync/atomic.AddInt32", "(*internal/sync.Mutex).Unlock", "internal/race.ReleaseMerge", "(*internal/sync.Mutex).unlockSlow", "internal/sync.fatal", "internal/sync.runtime_Semrelease"], unfollowed := true, recurses := true, named := ["math/bits.divideError", "math/bits.overflowError"], apart := false }
def FnConvolvedHangsOnPointwiseProductsAloneSaid : Prop := fnConvolvedHangsOnPointwiseProductsAloneRow.holds Try.pinned (OpenSpec.ofChange fnConvolvedHangsOnPointwiseProductsAloneSpec)

/-- ITS FALSE NEIGHBOUR: 'it returns false'. Refute it at one input. -/
def fnConvolvedHangsOnPointwiseProductsAloneWrong : ChangeSpec := { name := "fnConvolvedHangsOnPointwiseProductsAlone", fn := fun _ => fun
  | [d1, d2, d3, d4, d5, d6, d7, d8] => { results := [.lit (.bool false)], args := [d1, d2, d3, d4, d5, d6, d7, d8] }
  | _ => none }
def FnConvolvedHangsOnPointwiseProductsAloneWrongFalsely : Prop := fnConvolvedHangsOnPointwiseProductsAloneRow.holds Try.pinned (OpenSpec.ofChange fnConvolvedHangsOnPointwiseProductsAloneWrong)

end Rows
end Go.Proofs.Qxb6616212a
