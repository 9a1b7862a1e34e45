/-
  No cell of these rows narrows 'for every input' (looked for: loops, veiled, ifaces, maps, wideKeys, modest, calm, conditions, laid).
  DERIVED. THE GIVEN ROWS OF THIS SEAT. 1 by the template 'for every input the law returns true; each argument reads behind the call as it read before'; 0 by the template 'total and deterministic' (their statements: Qxb6614566aTotals.lean).
  GIVEN WITH THE SEED: the statements are not yours to turn. If you find one false, say at which input.
  Laid BY PROGRAM, IN A SANDBOX (cutbox-rows.mjs): the forced cells as the released guide's own fill.sh prints them over the translation 0bc2ee56a372bcd8… (all of the seat's roots in one cut). By AI agents, Wed Nov 11 2026. No macro, syntax, notation, axiom, sorry.
-/
import Derived.Test.Qxb6614566aChecked
import GoSem.Claim
import GoSem.ClaimJoined
import GoSem.ClaimMapViews
import Derived.JoinedTies
import Derived.KernelRfl
namespace Go.Proofs.Qxb6614566a
/- THE CELL 'sum', in the pinned program and in every row, IS THE sha256 OF THE DUMP (.gsa) THAT Qxb6614566aProg.lean LOADS. Nothing in Lean hashes anything: it is a label: what it is worth is what the hold of that sum in a sandbox is worth. -/
noncomputable def Try.pinned : Pinned := { name := "qxb6614566a", sum := "0bc2ee56a372bcd80255e159efbc2d54b6f5cb02b131bd0afc0f33945ce794ef", checked := Try.checked }
namespace Rows
def none {H : Type} : Left H := { results := [], args := [] }

/-- 'zzlaws_registry_b1.FnIsIDByteIsFoldedNameByteOrPunct': WHATEVER THE INPUT: true; the input reads as it did. -/
def fnIsIDByteIsFoldedNameByteOrPunctSpec : ChangeSpec := { name := "fnIsIDByteIsFoldedNameByteOrPunct", fn := fun _ => fun
  | [d] => { results := [.lit (.bool true)], args := [d] }
  | _ => none }
def fnIsIDByteIsFoldedNameByteOrPunctRow : OpenClaim := { program := "qxb6614566a", sum := "0bc2ee56a372bcd80255e159efbc2d54b6f5cb02b131bd0afc0f33945ce794ef", func := "example.com/tallymark/tallymark/zzlaws_registry_b1.FnIsIDByteIsFoldedNameByteOrPunct", spec := "fnIsIDByteIsFoldedNameByteOrPunct", inPlace := ["internal/bytealg.IndexByteString"], apart := false }
def FnIsIDByteIsFoldedNameByteOrPunctSaid : Prop := fnIsIDByteIsFoldedNameByteOrPunctRow.holds Try.pinned (OpenSpec.ofChange fnIsIDByteIsFoldedNameByteOrPunctSpec)

/-- ITS FALSE NEIGHBOUR: 'it returns false'. Refute it at one input. -/
def fnIsIDByteIsFoldedNameByteOrPunctWrong : ChangeSpec := { name := "fnIsIDByteIsFoldedNameByteOrPunct", fn := fun _ => fun
  | [d] => { results := [.lit (.bool false)], args := [d] }
  | _ => none }
def FnIsIDByteIsFoldedNameByteOrPunctWrongFalsely : Prop := fnIsIDByteIsFoldedNameByteOrPunctRow.holds Try.pinned (OpenSpec.ofChange fnIsIDByteIsFoldedNameByteOrPunctWrong)

end Rows
end Go.Proofs.Qxb6614566a
