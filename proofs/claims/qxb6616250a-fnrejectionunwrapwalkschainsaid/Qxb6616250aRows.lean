/-
  No cell of these rows narrows 'for every input' (looked for: loops, veiled, ifaces, maps, wideKeys, modest, calm, conditions, laid).
  DERIVED. THE GIVEN ROWS OF THIS SEAT. 1 by the template 'for every input the law returns true; each argument reads behind the call as it read before'; 0 by the template 'total and deterministic' (their statements: Qxb6616250aTotals.lean).
  GIVEN WITH THE SEED: the statements are not yours to turn. If you find one false, say at which input.
  Laid BY PROGRAM, IN A SANDBOX (cutbox-rows.mjs): the forced cells as the released guide's own fill.sh prints them over the translation d04e505bf7237140… (all of the seat's roots in one cut). By AI agents, Wed Nov 11 2026. No macro, syntax, notation, axiom, sorry.
-/
import Derived.Test.Qxb6616250aChecked
import GoSem.Claim
import GoSem.ClaimJoined
import GoSem.ClaimMapViews
import Derived.JoinedTies
import Derived.KernelRfl
namespace Go.Proofs.Qxb6616250a
/- THE CELL 'sum', in the pinned program and in every row, IS THE sha256 OF THE DUMP (.gsa) THAT Qxb6616250aProg.lean LOADS. Nothing in Lean hashes anything: it is a label: what it is worth is what the hold of that sum in a sandbox is worth. -/
noncomputable def Try.pinned : Pinned := { name := "qxb6616250a", sum := "d04e505bf7237140e0e0b0957fabe97a55d19634aac3061ab9fcdf29bbfebf73", checked := Try.checked }
namespace Rows
def none {H : Type} : Left H := { results := [], args := [] }

/-- 'zzlaws_pkg_engine_b1.FnRejectionUnwrapWalksChain': WHATEVER THE INPUT: true; the input reads as it did. -/
def fnRejectionUnwrapWalksChainSpec : ChangeSpec := { name := "fnRejectionUnwrapWalksChain", fn := fun _ => fun
  | [d1, d2, d3] => { results := [.lit (.bool true)], args := [d1, d2, d3] }
  | _ => none }
def fnRejectionUnwrapWalksChainRow : OpenClaim := { program := "qxb6616250a", sum := "d04e505bf7237140e0e0b0957fabe97a55d19634aac3061ab9fcdf29bbfebf73", func := "example.com/tideline/tideline/zzlaws_pkg_engine_b1.FnRejectionUnwrapWalksChain", spec := "fnRejectionUnwrapWalksChain", unfollowed := true, recurses := true, apart := false }
def FnRejectionUnwrapWalksChainSaid : Prop := fnRejectionUnwrapWalksChainRow.holds Try.pinned (OpenSpec.ofChange fnRejectionUnwrapWalksChainSpec)

/-- ITS FALSE NEIGHBOUR: 'it returns false'. Refute it at one input. -/
def fnRejectionUnwrapWalksChainWrong : ChangeSpec := { name := "fnRejectionUnwrapWalksChain", fn := fun _ => fun
  | [d1, d2, d3] => { results := [.lit (.bool false)], args := [d1, d2, d3] }
  | _ => none }
def FnRejectionUnwrapWalksChainWrongFalsely : Prop := fnRejectionUnwrapWalksChainRow.holds Try.pinned (OpenSpec.ofChange fnRejectionUnwrapWalksChainWrong)

end Rows
end Go.Proofs.Qxb6616250a
