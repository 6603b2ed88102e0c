/-
  No cell of these rows narrows 'for every input' (looked for: loops, veiled, ifaces, maps, wideKeys, modest, calm, conditions, laid).
  DERIVED. THE GIVEN ROWS OF THIS SEAT. 1 by the template 'for every input the law returns true; each argument reads behind the call as it read before'; 0 by the template 'total and deterministic' (their statements: Qxb6612322aTotals.lean).
  GIVEN WITH THE SEED: the statements are not yours to turn. If you find one false, say at which input.
  Laid BY PROGRAM, IN A SANDBOX (cutbox-rows.mjs): the forced cells as the released guide's own fill.sh prints them over the translation 28edd41878ef86c0… (all of the seat's roots in one cut). By AI agents, Wed Nov 11 2026. No macro, syntax, notation, axiom, sorry.
-/
import Derived.Test.Qxb6612322aChecked
import GoSem.Claim
import GoSem.ClaimJoined
import GoSem.ClaimMapViews
import Derived.JoinedTies
import Derived.KernelRfl
namespace Go.Proofs.Qxb6612322a
/- THE CELL 'sum', in the pinned program and in every row, IS THE sha256 OF THE DUMP (.gsa) THAT Qxb6612322aProg.lean LOADS. Nothing in Lean hashes anything: it is a label: what it is worth is what the hold of that sum in a sandbox is worth. -/
noncomputable def Try.pinned : Pinned := { name := "qxb6612322a", sum := "28edd41878ef86c0a544c5c9ad5cc9e97f16f07c14e764b3c5337dd526c0d786", checked := Try.checked }
namespace Rows
def none {H : Type} : Left H := { results := [], args := [] }

/-- 'zzlaws_internal_durable_b1.FnBitsAccessSplitsNineBits': WHATEVER THE INPUT: true; the input reads as it did. -/
def fnBitsAccessSplitsNineBitsSpec : ChangeSpec := { name := "fnBitsAccessSplitsNineBits", fn := fun _ => fun
  | [d] => { results := [.lit (.bool true)], args := [d] }
  | _ => none }
def fnBitsAccessSplitsNineBitsRow : OpenClaim := { program := "qxb6612322a", sum := "28edd41878ef86c0a544c5c9ad5cc9e97f16f07c14e764b3c5337dd526c0d786", func := "example.com/armslength/armslength/zzlaws_internal_durable_b1.FnBitsAccessSplitsNineBits", spec := "fnBitsAccessSplitsNineBits", apart := false }
def FnBitsAccessSplitsNineBitsSaid : Prop := fnBitsAccessSplitsNineBitsRow.holds Try.pinned (OpenSpec.ofChange fnBitsAccessSplitsNineBitsSpec)

/-- ITS FALSE NEIGHBOUR: 'it returns false'. Refute it at one input. -/
def fnBitsAccessSplitsNineBitsWrong : ChangeSpec := { name := "fnBitsAccessSplitsNineBits", fn := fun _ => fun
  | [d] => { results := [.lit (.bool false)], args := [d] }
  | _ => none }
def FnBitsAccessSplitsNineBitsWrongFalsely : Prop := fnBitsAccessSplitsNineBitsRow.holds Try.pinned (OpenSpec.ofChange fnBitsAccessSplitsNineBitsWrong)

end Rows
end Go.Proofs.Qxb6612322a
