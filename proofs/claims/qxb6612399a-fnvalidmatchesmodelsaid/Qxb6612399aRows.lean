/-
  No cell of these rows narrows 'for every input' (looked for: loops, veiled, ifaces, maps, wideKeys, modest, calm, conditions, laid).
  DERIVED. THE GIVEN ROWS OF THIS SEAT. 1 by the template 'for every input the law returns true; each argument reads behind the call as it read before'; 0 by the template 'total and deterministic' (their statements: Qxb6612399aTotals.lean).
  GIVEN WITH THE SEED: the statements are not yours to turn. If you find one false, say at which input.
  Laid BY PROGRAM, IN A SANDBOX (cutbox-rows.mjs): the forced cells as the released guide's own fill.sh prints them over the translation 6a2e7a1cf27a83ee… (all of the seat's roots in one cut). By AI agents, Wed Nov 11 2026. No macro, syntax, notation, axiom, sorry.
-/
import Derived.Test.Qxb6612399aChecked
import GoSem.Claim
import GoSem.ClaimJoined
import GoSem.ClaimMapViews
import Derived.JoinedTies
import Derived.KernelRfl
namespace Go.Proofs.Qxb6612399a
/- THE CELL 'sum', in the pinned program and in every row, IS THE sha256 OF THE DUMP (.gsa) THAT Qxb6612399aProg.lean LOADS. Nothing in Lean hashes anything: it is a label: what it is worth is what the hold of that sum in a sandbox is worth. -/
noncomputable def Try.pinned : Pinned := { name := "qxb6612399a", sum := "6a2e7a1cf27a83eec90aca75996a96862b13c018051942b2bb716bd966beb1b5", checked := Try.checked }
namespace Rows
def none {H : Type} : Left H := { results := [], args := [] }

/-- 'zzlaws_internal_exactjson_b1.FnValidMatchesModel': WHATEVER THE INPUT: true; the input reads as it did. -/
def fnValidMatchesModelSpec : ChangeSpec := { name := "fnValidMatchesModel", fn := fun _ => fun
  | [d] => { results := [.lit (.bool true)], args := [d] }
  | _ => none }
def fnValidMatchesModelRow : OpenClaim := { program := "qxb6612399a", sum := "6a2e7a1cf27a83eec90aca75996a96862b13c018051942b2bb716bd966beb1b5", func := "example.com/lichen/lichen/zzlaws_internal_exactjson_b1.FnValidMatchesModel", spec := "fnValidMatchesModel", recurses := true, apart := false }
def FnValidMatchesModelSaid : Prop := fnValidMatchesModelRow.holds Try.pinned (OpenSpec.ofChange fnValidMatchesModelSpec)

/-- ITS FALSE NEIGHBOUR: 'it returns false'. Refute it at one input. -/
def fnValidMatchesModelWrong : ChangeSpec := { name := "fnValidMatchesModel", fn := fun _ => fun
  | [d] => { results := [.lit (.bool false)], args := [d] }
  | _ => none }
def FnValidMatchesModelWrongFalsely : Prop := fnValidMatchesModelRow.holds Try.pinned (OpenSpec.ofChange fnValidMatchesModelWrong)

end Rows
end Go.Proofs.Qxb6612399a
