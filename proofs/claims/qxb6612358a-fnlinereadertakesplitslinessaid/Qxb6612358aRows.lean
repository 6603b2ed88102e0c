/-
  No cell of these rows narrows 'for every input' (looked for: loops, veiled, ifaces, maps, wideKeys, modest, calm, conditions, laid).
  DERIVED. THE GIVEN ROWS OF THIS SEAT. 4 by the template 'for every input the law returns true; each argument reads behind the call as it read before'; 0 by the template 'total and deterministic' (their statements: Qxb6612358aTotals.lean).
  GIVEN WITH THE SEED: the statements are not yours to turn. If you find one false, say at which input.
  Laid BY PROGRAM, IN A SANDBOX (cutbox-rows.mjs): the forced cells as the released guide's own fill.sh prints them over the translation 861dd9ed061db82a… (all of the seat's roots in one cut). By AI agents, Wed Nov 11 2026. No macro, syntax, notation, axiom, sorry.
-/
import Derived.Test.Qxb6612358aChecked
import GoSem.Claim
import GoSem.ClaimJoined
import GoSem.ClaimMapViews
import Derived.JoinedTies
import Derived.KernelRfl
namespace Go.Proofs.Qxb6612358a
/- THE CELL 'sum', in the pinned program and in every row, IS THE sha256 OF THE DUMP (.gsa) THAT Qxb6612358aProg.lean LOADS. Nothing in Lean hashes anything: it is a label: what it is worth is what the hold of that sum in a sandbox is worth. -/
noncomputable def Try.pinned : Pinned := { name := "qxb6612358a", sum := "861dd9ed061db82ad9ab0ab0977660b10511f921764ed29e466a8c58fd12dc4d", checked := Try.checked }
namespace Rows
def none {H : Type} : Left H := { results := [], args := [] }

/-- 'zzlaws_trace_b1.FnTaskKeysNameByPosition': WHATEVER THE INPUT: true; the input reads as it did. -/
def fnTaskKeysNameByPositionSpec : ChangeSpec := { name := "fnTaskKeysNameByPosition", fn := fun _ => fun
  | [d1, d2, d3] => { results := [.lit (.bool true)], args := [d1, d2, d3] }
  | _ => none }
def fnTaskKeysNameByPositionRow : OpenClaim := { program := "qxb6612358a", sum := "861dd9ed061db82ad9ab0ab0977660b10511f921764ed29e466a8c58fd12dc4d", func := "example.com/halyard/halyard/zzlaws_trace_b1.FnTaskKeysNameByPosition", spec := "fnTaskKeysNameByPosition", apart := false }
def FnTaskKeysNameByPositionSaid : Prop := fnTaskKeysNameByPositionRow.holds Try.pinned (OpenSpec.ofChange fnTaskKeysNameByPositionSpec)

/-- ITS FALSE NEIGHBOUR: 'it returns false'. Refute it at one input. -/
def fnTaskKeysNameByPositionWrong : ChangeSpec := { name := "fnTaskKeysNameByPosition", fn := fun _ => fun
  | [d1, d2, d3] => { results := [.lit (.bool false)], args := [d1, d2, d3] }
  | _ => none }
def FnTaskKeysNameByPositionWrongFalsely : Prop := fnTaskKeysNameByPositionRow.holds Try.pinned (OpenSpec.ofChange fnTaskKeysNameByPositionWrong)

/-- 'zzlaws_trace_b1.FnTaskKeysNamesTileKeys': WHATEVER THE INPUT: true; the input reads as it did. -/
def fnTaskKeysNamesTileKeysSpec : ChangeSpec := { name := "fnTaskKeysNamesTileKeys", fn := fun _ => fun
  | [d1, d2] => { results := [.lit (.bool true)], args := [d1, d2] }
  | _ => none }
def fnTaskKeysNamesTileKeysRow : OpenClaim := { program := "qxb6612358a", sum := "861dd9ed061db82ad9ab0ab0977660b10511f921764ed29e466a8c58fd12dc4d", func := "example.com/halyard/halyard/zzlaws_trace_b1.FnTaskKeysNamesTileKeys", spec := "fnTaskKeysNamesTileKeys", apart := false }
def FnTaskKeysNamesTileKeysSaid : Prop := fnTaskKeysNamesTileKeysRow.holds Try.pinned (OpenSpec.ofChange fnTaskKeysNamesTileKeysSpec)

/-- ITS FALSE NEIGHBOUR: 'it returns false'. Refute it at one input. -/
def fnTaskKeysNamesTileKeysWrong : ChangeSpec := { name := "fnTaskKeysNamesTileKeys", fn := fun _ => fun
  | [d1, d2] => { results := [.lit (.bool false)], args := [d1, d2] }
  | _ => none }
def FnTaskKeysNamesTileKeysWrongFalsely : Prop := fnTaskKeysNamesTileKeysRow.holds Try.pinned (OpenSpec.ofChange fnTaskKeysNamesTileKeysWrong)

/-- 'zzlaws_trace_b1.FnLineReaderTakeTrimsOneCR': WHATEVER THE INPUT: true; the input reads as it did. -/
def fnLineReaderTakeTrimsOneCRSpec : ChangeSpec := { name := "fnLineReaderTakeTrimsOneCR", fn := fun _ => fun
  | [d1, d2, d3, d4, d5, d6] => { results := [.lit (.bool true)], args := [d1, d2, d3, d4, d5, d6] }
  | _ => none }
def fnLineReaderTakeTrimsOneCRRow : OpenClaim := { program := "qxb6612358a", sum := "861dd9ed061db82ad9ab0ab0977660b10511f921764ed29e466a8c58fd12dc4d", func := "example.com/halyard/halyard/zzlaws_trace_b1.FnLineReaderTakeTrimsOneCR", spec := "fnLineReaderTakeTrimsOneCR", apart := false }
def FnLineReaderTakeTrimsOneCRSaid : Prop := fnLineReaderTakeTrimsOneCRRow.holds Try.pinned (OpenSpec.ofChange fnLineReaderTakeTrimsOneCRSpec)

/-- ITS FALSE NEIGHBOUR: 'it returns false'. Refute it at one input. -/
def fnLineReaderTakeTrimsOneCRWrong : ChangeSpec := { name := "fnLineReaderTakeTrimsOneCR", fn := fun _ => fun
  | [d1, d2, d3, d4, d5, d6] => { results := [.lit (.bool false)], args := [d1, d2, d3, d4, d5, d6] }
  | _ => none }
def FnLineReaderTakeTrimsOneCRWrongFalsely : Prop := fnLineReaderTakeTrimsOneCRRow.holds Try.pinned (OpenSpec.ofChange fnLineReaderTakeTrimsOneCRWrong)

/-- 'zzlaws_trace_b1.FnLineReaderTakeSplitsLines': WHATEVER THE INPUT: true; the input reads as it did. -/
def fnLineReaderTakeSplitsLinesSpec : ChangeSpec := { name := "fnLineReaderTakeSplitsLines", fn := fun _ => fun
  | [d1, d2, d3] => { results := [.lit (.bool true)], args := [d1, d2, d3] }
  | _ => none }
def fnLineReaderTakeSplitsLinesRow : OpenClaim := { program := "qxb6612358a", sum := "861dd9ed061db82ad9ab0ab0977660b10511f921764ed29e466a8c58fd12dc4d", func := "example.com/halyard/halyard/zzlaws_trace_b1.FnLineReaderTakeSplitsLines", spec := "fnLineReaderTakeSplitsLines", apart := false }
def FnLineReaderTakeSplitsLinesSaid : Prop := fnLineReaderTakeSplitsLinesRow.holds Try.pinned (OpenSpec.ofChange fnLineReaderTakeSplitsLinesSpec)

/-- ITS FALSE NEIGHBOUR: 'it returns false'. Refute it at one input. -/
def fnLineReaderTakeSplitsLinesWrong : ChangeSpec := { name := "fnLineReaderTakeSplitsLines", fn := fun _ => fun
  | [d1, d2, d3] => { results := [.lit (.bool false)], args := [d1, d2, d3] }
  | _ => none }
def FnLineReaderTakeSplitsLinesWrongFalsely : Prop := fnLineReaderTakeSplitsLinesRow.holds Try.pinned (OpenSpec.ofChange fnLineReaderTakeSplitsLinesWrong)

end Rows
end Go.Proofs.Qxb6612358a
