/-
  No cell of these rows narrows 'for every input' (looked for: loops, veiled, ifaces, maps, wideKeys, modest, calm, conditions, laid).
  DERIVED. THE GIVEN ROWS OF THIS SEAT. 1 by the template 'for every input the law returns true; each argument reads behind the call as it read before'; 0 by the template 'total and deterministic' (their statements: Qxb6627718aTotals.lean).
  GIVEN WITH THE SEED: the statements are not yours to turn. If you find one false, say at which input.
  Laid BY PROGRAM, IN A SANDBOX (cutbox-rows.mjs): the forced cells as the released guide's own fill.sh prints them over the translation d833239f938ab5d0… (all of the seat's roots in one cut). By AI agents, Wed Nov 11 2026. No macro, syntax, notation, axiom, sorry.
-/
import Derived.Test.Qxb6627718aChecked
import GoSem.Claim
import GoSem.ClaimJoined
import GoSem.ClaimMapViews
import Derived.JoinedTies
import Derived.KernelRfl
namespace Go.Proofs.Qxb6627718a
/- THE CELL 'sum', in the pinned program and in every row, IS THE sha256 OF THE DUMP (.gsa) THAT Qxb6627718aProg.lean LOADS. Nothing in Lean hashes anything: it is a label: what it is worth is what the hold of that sum in a sandbox is worth. -/
noncomputable def Try.pinned : Pinned := { name := "qxb6627718a", sum := "d833239f938ab5d0adac8d1b17cc23f6e9aa12f2d607bcbd762951b0141968e5", checked := Try.checked }
namespace Rows
def none {H : Type} : Left H := { results := [], args := [] }

/-- 'zzlaws_internal_x11_b1.FnKeysymsJoinedKeymapAgreesWithItsParts': WHATEVER THE INPUT: true; the input reads as it did. -/
def fnKeysymsJoinedKeymapAgreesWithItsPartsSpec : ChangeSpec := { name := "fnKeysymsJoinedKeymapAgreesWithItsParts", fn := fun _ => fun
  | [d1, d2, d3, d4, d5] => { results := [.lit (.bool true)], args := [d1, d2, d3, d4, d5] }
  | _ => none }
def fnKeysymsJoinedKeymapAgreesWithItsPartsRow : OpenClaim := { program := "qxb6627718a", sum := "d833239f938ab5d0adac8d1b17cc23f6e9aa12f2d607bcbd762951b0141968e5", func := "example.com/opslate/opslate/zzlaws_internal_x11_b1.FnKeysymsJoinedKeymapAgreesWithItsParts", spec := "fnKeysymsJoinedKeymapAgreesWithItsParts", apart := false }
def FnKeysymsJoinedKeymapAgreesWithItsPartsSaid : Prop := fnKeysymsJoinedKeymapAgreesWithItsPartsRow.holds Try.pinned (OpenSpec.ofChange fnKeysymsJoinedKeymapAgreesWithItsPartsSpec)

/-- ITS FALSE NEIGHBOUR: 'it returns false'. Refute it at one input. -/
def fnKeysymsJoinedKeymapAgreesWithItsPartsWrong : ChangeSpec := { name := "fnKeysymsJoinedKeymapAgreesWithItsParts", fn := fun _ => fun
  | [d1, d2, d3, d4, d5] => { results := [.lit (.bool false)], args := [d1, d2, d3, d4, d5] }
  | _ => none }
def FnKeysymsJoinedKeymapAgreesWithItsPartsWrongFalsely : Prop := fnKeysymsJoinedKeymapAgreesWithItsPartsRow.holds Try.pinned (OpenSpec.ofChange fnKeysymsJoinedKeymapAgreesWithItsPartsWrong)

end Rows
end Go.Proofs.Qxb6627718a
