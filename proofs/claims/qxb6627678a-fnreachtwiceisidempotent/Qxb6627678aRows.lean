/-
  No cell of these rows narrows 'for every input' (looked for: loops, veiled, ifaces, maps, wideKeys, modest, calm, conditions, laid).
  DERIVED. THE GIVEN ROWS OF THIS SEAT. 2 by the template 'for every input the law returns true; each argument reads behind the call as it read before'; 0 by the template 'total and deterministic' (their statements: Qxb6627678aTotals.lean).
  GIVEN WITH THE SEED: the statements are not yours to turn. If you find one false, say at which input.
  Laid BY PROGRAM, IN A SANDBOX (cutbox-rows.mjs): the forced cells as the released guide's own fill.sh prints them over the translation 1deed9429a947bc2… (all of the seat's roots in one cut). By AI agents, Wed Nov 11 2026. No macro, syntax, notation, axiom, sorry.
-/
import Derived.Test.Qxb6627678aChecked
import GoSem.Claim
import GoSem.ClaimJoined
import GoSem.ClaimMapViews
import Derived.JoinedTies
import Derived.KernelRfl
namespace Go.Proofs.Qxb6627678a
/- THE CELL 'sum', in the pinned program and in every row, IS THE sha256 OF THE DUMP (.gsa) THAT Qxb6627678aProg.lean LOADS. Nothing in Lean hashes anything: it is a label: what it is worth is what the hold of that sum in a sandbox is worth. -/
noncomputable def Try.pinned : Pinned := { name := "qxb6627678a", sum := "1deed9429a947bc2fef3aeb2c480ebf2c2e01a1f1fcf081f6822f466be1bb18a", checked := Try.checked }
namespace Rows
def none {H : Type} : Left H := { results := [], args := [] }

/-- 'zzlaws_object_b1.FnReachScriptKeepsRunningMax': WHATEVER THE INPUT: true; the input reads as it did. -/
def fnReachScriptKeepsRunningMaxSpec : ChangeSpec := { name := "fnReachScriptKeepsRunningMax", fn := fun _ => fun
  | [d1, d2] => { results := [.lit (.bool true)], args := [d1, d2] }
  | _ => none }
def fnReachScriptKeepsRunningMaxRow : OpenClaim := { program := "qxb6627678a", sum := "1deed9429a947bc2fef3aeb2c480ebf2c2e01a1f1fcf081f6822f466be1bb18a", func := "example.com/arboreal/arboreal/zzlaws_object_b1.FnReachScriptKeepsRunningMax", spec := "fnReachScriptKeepsRunningMax", inPlace := ["sync/atomic.StoreUint64", "sync/atomic.LoadUint64", "sync/atomic.CompareAndSwapUint64"], apart := false }
def FnReachScriptKeepsRunningMaxSaid : Prop := fnReachScriptKeepsRunningMaxRow.holds Try.pinned (OpenSpec.ofChange fnReachScriptKeepsRunningMaxSpec)

/-- ITS FALSE NEIGHBOUR: 'it returns false'. Refute it at one input. -/
def fnReachScriptKeepsRunningMaxWrong : ChangeSpec := { name := "fnReachScriptKeepsRunningMax", fn := fun _ => fun
  | [d1, d2] => { results := [.lit (.bool false)], args := [d1, d2] }
  | _ => none }
def FnReachScriptKeepsRunningMaxWrongFalsely : Prop := fnReachScriptKeepsRunningMaxRow.holds Try.pinned (OpenSpec.ofChange fnReachScriptKeepsRunningMaxWrong)

/-- 'zzlaws_object_b1.FnReachTwiceIsIdempotent': WHATEVER THE INPUT: true; the input reads as it did. -/
def fnReachTwiceIsIdempotentSpec : ChangeSpec := { name := "fnReachTwiceIsIdempotent", fn := fun _ => fun
  | [d1, d2] => { results := [.lit (.bool true)], args := [d1, d2] }
  | _ => none }
def fnReachTwiceIsIdempotentRow : OpenClaim := { program := "qxb6627678a", sum := "1deed9429a947bc2fef3aeb2c480ebf2c2e01a1f1fcf081f6822f466be1bb18a", func := "example.com/arboreal/arboreal/zzlaws_object_b1.FnReachTwiceIsIdempotent", spec := "fnReachTwiceIsIdempotent", inPlace := ["sync/atomic.StoreUint64", "sync/atomic.LoadUint64", "sync/atomic.CompareAndSwapUint64"], apart := false }
def FnReachTwiceIsIdempotentSaid : Prop := fnReachTwiceIsIdempotentRow.holds Try.pinned (OpenSpec.ofChange fnReachTwiceIsIdempotentSpec)

/-- ITS FALSE NEIGHBOUR: 'it returns false'. Refute it at one input. -/
def fnReachTwiceIsIdempotentWrong : ChangeSpec := { name := "fnReachTwiceIsIdempotent", fn := fun _ => fun
  | [d1, d2] => { results := [.lit (.bool false)], args := [d1, d2] }
  | _ => none }
def FnReachTwiceIsIdempotentWrongFalsely : Prop := fnReachTwiceIsIdempotentRow.holds Try.pinned (OpenSpec.ofChange fnReachTwiceIsIdempotentWrong)

end Rows
end Go.Proofs.Qxb6627678a
