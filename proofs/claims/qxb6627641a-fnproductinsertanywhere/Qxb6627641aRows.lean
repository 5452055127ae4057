/-
  No cell of these rows narrows 'for every input' (looked for: loops, veiled, ifaces, maps, wideKeys, modest, calm, conditions, laid).
  DERIVED. THE GIVEN ROWS OF THIS SEAT. 2 by the template 'for every input the law returns true; each argument reads behind the call as it read before'; 0 by the template 'total and deterministic' (their statements: Qxb6627641aTotals.lean).
  GIVEN WITH THE SEED: the statements are not yours to turn. If you find one false, say at which input.
  Laid BY PROGRAM, IN A SANDBOX (cutbox-rows.mjs): the forced cells as the released guide's own fill.sh prints them over the translation 09f0dfacf4436d47… (all of the seat's roots in one cut). By AI agents, Wed Nov 11 2026. No macro, syntax, notation, axiom, sorry.
-/
import Derived.Test.Qxb6627641aChecked
import GoSem.Claim
import GoSem.ClaimJoined
import GoSem.ClaimMapViews
import Derived.JoinedTies
import Derived.KernelRfl
namespace Go.Proofs.Qxb6627641a
/- THE CELL 'sum', in the pinned program and in every row, IS THE sha256 OF THE DUMP (.gsa) THAT Qxb6627641aProg.lean LOADS. Nothing in Lean hashes anything: it is a label: what it is worth is what the hold of that sum in a sandbox is worth. -/
noncomputable def Try.pinned : Pinned := { name := "qxb6627641a", sum := "09f0dfacf4436d470a2323387270166920753d317544d26498a36f6b6d500c1d", checked := Try.checked }
namespace Rows
def none {H : Type} : Left H := { results := [], args := [] }

/-- 'zzlaws_catalogue_b1.FnProductJoinAtAnyCut': WHATEVER THE INPUT: true; the input reads as it did. -/
def fnProductJoinAtAnyCutSpec : ChangeSpec := { name := "fnProductJoinAtAnyCut", fn := fun _ => fun
  | [d1, d2, d3, d4, d5] => { results := [.lit (.bool true)], args := [d1, d2, d3, d4, d5] }
  | _ => none }
def fnProductJoinAtAnyCutRow : OpenClaim := { program := "qxb6627641a", sum := "09f0dfacf4436d470a2323387270166920753d317544d26498a36f6b6d500c1d", func := "example.com/gresham/gresham/zzlaws_catalogue_b1.FnProductJoinAtAnyCut", spec := "fnProductJoinAtAnyCut", unfollowed := true, recurses := true, apart := false }
def FnProductJoinAtAnyCutSaid : Prop := fnProductJoinAtAnyCutRow.holds Try.pinned (OpenSpec.ofChange fnProductJoinAtAnyCutSpec)

/-- ITS FALSE NEIGHBOUR: 'it returns false'. Refute it at one input. -/
def fnProductJoinAtAnyCutWrong : ChangeSpec := { name := "fnProductJoinAtAnyCut", fn := fun _ => fun
  | [d1, d2, d3, d4, d5] => { results := [.lit (.bool false)], args := [d1, d2, d3, d4, d5] }
  | _ => none }
def FnProductJoinAtAnyCutWrongFalsely : Prop := fnProductJoinAtAnyCutRow.holds Try.pinned (OpenSpec.ofChange fnProductJoinAtAnyCutWrong)

/-- 'zzlaws_catalogue_b1.FnProductInsertAnywhere': WHATEVER THE INPUT: true; the input reads as it did. -/
def fnProductInsertAnywhereSpec : ChangeSpec := { name := "fnProductInsertAnywhere", fn := fun _ => fun
  | [d1, d2, d3, d4, d5, d6] => { results := [.lit (.bool true)], args := [d1, d2, d3, d4, d5, d6] }
  | _ => none }
def fnProductInsertAnywhereRow : OpenClaim := { program := "qxb6627641a", sum := "09f0dfacf4436d470a2323387270166920753d317544d26498a36f6b6d500c1d", func := "example.com/gresham/gresham/zzlaws_catalogue_b1.FnProductInsertAnywhere", spec := "fnProductInsertAnywhere", unfollowed := true, recurses := true, apart := false }
def FnProductInsertAnywhereSaid : Prop := fnProductInsertAnywhereRow.holds Try.pinned (OpenSpec.ofChange fnProductInsertAnywhereSpec)

/-- ITS FALSE NEIGHBOUR: 'it returns false'. Refute it at one input. -/
def fnProductInsertAnywhereWrong : ChangeSpec := { name := "fnProductInsertAnywhere", fn := fun _ => fun
  | [d1, d2, d3, d4, d5, d6] => { results := [.lit (.bool false)], args := [d1, d2, d3, d4, d5, d6] }
  | _ => none }
def FnProductInsertAnywhereWrongFalsely : Prop := fnProductInsertAnywhereRow.holds Try.pinned (OpenSpec.ofChange fnProductInsertAnywhereWrong)

end Rows
end Go.Proofs.Qxb6627641a
