/-
  No cell of these rows narrows 'for every input' (looked for: loops, veiled, ifaces, maps, wideKeys, modest, calm, conditions, laid).
  DERIVED. THE GIVEN ROWS OF THIS SEAT. 2 by the template 'for every input the law returns true; each argument reads behind the call as it read before'; 0 by the template 'total and deterministic' (their statements: Qxb6612298aTotals.lean).
  GIVEN WITH THE SEED: the statements are not yours to turn. If you find one false, say at which input.
  Laid BY PROGRAM, IN A SANDBOX (cutbox-rows.mjs): the forced cells as the released guide's own fill.sh prints them over the translation b27d71f68e1b8273… (all of the seat's roots in one cut). By AI agents, Wed Nov 11 2026. No macro, syntax, notation, axiom, sorry.
-/
import Derived.Test.Qxb6612298aChecked
import GoSem.Claim
import GoSem.ClaimJoined
import GoSem.ClaimMapViews
import Derived.JoinedTies
import Derived.KernelRfl
namespace Go.Proofs.Qxb6612298a
/- THE CELL 'sum', in the pinned program and in every row, IS THE sha256 OF THE DUMP (.gsa) THAT Qxb6612298aProg.lean LOADS. Nothing in Lean hashes anything: it is a label: what it is worth is what the hold of that sum in a sandbox is worth. -/
noncomputable def Try.pinned : Pinned := { name := "qxb6612298a", sum := "b27d71f68e1b82734e8e54cd48d5e191b5ca5cf0407e70d894f11e2b6e9461a6", checked := Try.checked }
namespace Rows
def none {H : Type} : Left H := { results := [], args := [] }

/-- 'zzlaws_root_b1.FnEachHeldReportsHeldSlotsAndShrinks': WHATEVER THE INPUT: true; the input reads as it did. -/
def fnEachHeldReportsHeldSlotsAndShrinksSpec : ChangeSpec := { name := "fnEachHeldReportsHeldSlotsAndShrinks", fn := fun _ => fun
  | [d] => { results := [.lit (.bool true)], args := [d] }
  | _ => none }
def fnEachHeldReportsHeldSlotsAndShrinksRow : OpenClaim := { program := "qxb6612298a", sum := "b27d71f68e1b82734e8e54cd48d5e191b5ca5cf0407e70d894f11e2b6e9461a6", func := "example.com/stampline/stampline/zzlaws_root_b1.FnEachHeldReportsHeldSlotsAndShrinks", spec := "fnEachHeldReportsHeldSlotsAndShrinks", inPlace := ["sync/atomic.StoreUint64", "sync/atomic.StorePointer", "sync/atomic.LoadPointer", "sync/atomic.LoadUint64", "(*internal/sync.Mutex).TryLock", "internal/race.Disable", "internal/race.Enable", "sync/atomic.CompareAndSwapInt32", "internal/race.Acquire", "(*internal/sync.Mutex).Unlock", "internal/race.ReleaseMerge", "sync/atomic.AddInt32", "(*internal/sync.Mutex).unlockSlow", "internal/sync.fatal", "internal/sync.runtime_Semrelease", "sync/atomic.CompareAndSwapUint64"], unfollowed := true, recurses := true, apart := false }
def FnEachHeldReportsHeldSlotsAndShrinksSaid : Prop := fnEachHeldReportsHeldSlotsAndShrinksRow.holds Try.pinned (OpenSpec.ofChange fnEachHeldReportsHeldSlotsAndShrinksSpec)

/-- ITS FALSE NEIGHBOUR: 'it returns false'. Refute it at one input. -/
def fnEachHeldReportsHeldSlotsAndShrinksWrong : ChangeSpec := { name := "fnEachHeldReportsHeldSlotsAndShrinks", fn := fun _ => fun
  | [d] => { results := [.lit (.bool false)], args := [d] }
  | _ => none }
def FnEachHeldReportsHeldSlotsAndShrinksWrongFalsely : Prop := fnEachHeldReportsHeldSlotsAndShrinksRow.holds Try.pinned (OpenSpec.ofChange fnEachHeldReportsHeldSlotsAndShrinksWrong)

/-- 'zzlaws_root_b1.FnEachHeldRetiresVacantAndKeepsHeld': WHATEVER THE INPUT: true; the input reads as it did. -/
def fnEachHeldRetiresVacantAndKeepsHeldSpec : ChangeSpec := { name := "fnEachHeldRetiresVacantAndKeepsHeld", fn := fun _ => fun
  | [d] => { results := [.lit (.bool true)], args := [d] }
  | _ => none }
def fnEachHeldRetiresVacantAndKeepsHeldRow : OpenClaim := { program := "qxb6612298a", sum := "b27d71f68e1b82734e8e54cd48d5e191b5ca5cf0407e70d894f11e2b6e9461a6", func := "example.com/stampline/stampline/zzlaws_root_b1.FnEachHeldRetiresVacantAndKeepsHeld", spec := "fnEachHeldRetiresVacantAndKeepsHeld", inPlace := ["sync/atomic.StoreUint64", "sync/atomic.StorePointer", "sync/atomic.LoadPointer", "sync/atomic.LoadUint64", "(*internal/sync.Mutex).TryLock", "internal/race.Disable", "internal/race.Enable", "sync/atomic.CompareAndSwapInt32", "internal/race.Acquire", "(*internal/sync.Mutex).Unlock", "internal/race.ReleaseMerge", "sync/atomic.AddInt32", "(*internal/sync.Mutex).unlockSlow", "internal/sync.fatal", "internal/sync.runtime_Semrelease", "sync/atomic.CompareAndSwapUint64"], unfollowed := true, recurses := true, apart := false }
def FnEachHeldRetiresVacantAndKeepsHeldSaid : Prop := fnEachHeldRetiresVacantAndKeepsHeldRow.holds Try.pinned (OpenSpec.ofChange fnEachHeldRetiresVacantAndKeepsHeldSpec)

/-- ITS FALSE NEIGHBOUR: 'it returns false'. Refute it at one input. -/
def fnEachHeldRetiresVacantAndKeepsHeldWrong : ChangeSpec := { name := "fnEachHeldRetiresVacantAndKeepsHeld", fn := fun _ => fun
  | [d] => { results := [.lit (.bool false)], args := [d] }
  | _ => none }
def FnEachHeldRetiresVacantAndKeepsHeldWrongFalsely : Prop := fnEachHeldRetiresVacantAndKeepsHeldRow.holds Try.pinned (OpenSpec.ofChange fnEachHeldRetiresVacantAndKeepsHeldWrong)

end Rows
end Go.Proofs.Qxb6612298a
