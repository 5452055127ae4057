/-
  No cell of these rows narrows 'for every input' (looked for: loops, veiled, ifaces, maps, wideKeys, modest, calm, conditions, laid).
  DERIVED. THE GIVEN ROWS OF THIS SEAT. 2 by the template 'for every input the law returns true; each argument reads behind the call as it read before'; 0 by the template 'total and deterministic' (their statements: Qxb6627602aTotals.lean).
  GIVEN WITH THE SEED: the statements are not yours to turn. If you find one false, say at which input.
  Laid BY PROGRAM, IN A SANDBOX (cutbox-rows.mjs): the forced cells as the released guide's own fill.sh prints them over the translation 84133c1e481e45be… (all of the seat's roots in one cut). By AI agents, Wed Nov 11 2026. No macro, syntax, notation, axiom, sorry.
-/
import Derived.Test.Qxb6627602aChecked
import GoSem.Claim
import GoSem.ClaimJoined
import GoSem.ClaimMapViews
import Derived.JoinedTies
import Derived.KernelRfl
namespace Go.Proofs.Qxb6627602a
/- THE CELL 'sum', in the pinned program and in every row, IS THE sha256 OF THE DUMP (.gsa) THAT Qxb6627602aProg.lean LOADS. Nothing in Lean hashes anything: it is a label: what it is worth is what the hold of that sum in a sandbox is worth. -/
noncomputable def Try.pinned : Pinned := { name := "qxb6627602a", sum := "84133c1e481e45be0ea7510717334b43ac49aa61759ab4d8cf27f04fa14bddf3", checked := Try.checked }
namespace Rows
def none {H : Type} : Left H := { results := [], args := [] }

/-- 'zzlaws_internal_config_b1.FnAllowsEntryInsertedAnywhere': WHATEVER THE INPUT: true; the input reads as it did. -/
def fnAllowsEntryInsertedAnywhereSpec : ChangeSpec := { name := "fnAllowsEntryInsertedAnywhere", fn := fun _ => fun
  | [d1, d2, d3, d4, d5, d6, d7, d8, d9] => { results := [.lit (.bool true)], args := [d1, d2, d3, d4, d5, d6, d7, d8, d9] }
  | _ => none }
def fnAllowsEntryInsertedAnywhereRow : OpenClaim := { program := "qxb6627602a", sum := "84133c1e481e45be0ea7510717334b43ac49aa61759ab4d8cf27f04fa14bddf3", func := "example.com/counterpoint/counterpoint/zzlaws_internal_config_b1.FnAllowsEntryInsertedAnywhere", spec := "fnAllowsEntryInsertedAnywhere", apart := false }
def FnAllowsEntryInsertedAnywhereSaid : Prop := fnAllowsEntryInsertedAnywhereRow.holds Try.pinned (OpenSpec.ofChange fnAllowsEntryInsertedAnywhereSpec)

/-- ITS FALSE NEIGHBOUR: 'it returns false'. Refute it at one input. -/
def fnAllowsEntryInsertedAnywhereWrong : ChangeSpec := { name := "fnAllowsEntryInsertedAnywhere", fn := fun _ => fun
  | [d1, d2, d3, d4, d5, d6, d7, d8, d9] => { results := [.lit (.bool false)], args := [d1, d2, d3, d4, d5, d6, d7, d8, d9] }
  | _ => none }
def FnAllowsEntryInsertedAnywhereWrongFalsely : Prop := fnAllowsEntryInsertedAnywhereRow.holds Try.pinned (OpenSpec.ofChange fnAllowsEntryInsertedAnywhereWrong)

/-- 'zzlaws_internal_config_b1.FnAllowsSplitAtAnyCut': WHATEVER THE INPUT: true; the input reads as it did. -/
def fnAllowsSplitAtAnyCutSpec : ChangeSpec := { name := "fnAllowsSplitAtAnyCut", fn := fun _ => fun
  | [d1, d2, d3, d4, d5, d6, d7, d8] => { results := [.lit (.bool true)], args := [d1, d2, d3, d4, d5, d6, d7, d8] }
  | _ => none }
def fnAllowsSplitAtAnyCutRow : OpenClaim := { program := "qxb6627602a", sum := "84133c1e481e45be0ea7510717334b43ac49aa61759ab4d8cf27f04fa14bddf3", func := "example.com/counterpoint/counterpoint/zzlaws_internal_config_b1.FnAllowsSplitAtAnyCut", spec := "fnAllowsSplitAtAnyCut", apart := false }
def FnAllowsSplitAtAnyCutSaid : Prop := fnAllowsSplitAtAnyCutRow.holds Try.pinned (OpenSpec.ofChange fnAllowsSplitAtAnyCutSpec)

/-- ITS FALSE NEIGHBOUR: 'it returns false'. Refute it at one input. -/
def fnAllowsSplitAtAnyCutWrong : ChangeSpec := { name := "fnAllowsSplitAtAnyCut", fn := fun _ => fun
  | [d1, d2, d3, d4, d5, d6, d7, d8] => { results := [.lit (.bool false)], args := [d1, d2, d3, d4, d5, d6, d7, d8] }
  | _ => none }
def FnAllowsSplitAtAnyCutWrongFalsely : Prop := fnAllowsSplitAtAnyCutRow.holds Try.pinned (OpenSpec.ofChange fnAllowsSplitAtAnyCutWrong)

end Rows
end Go.Proofs.Qxb6627602a
