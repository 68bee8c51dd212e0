/-
  No cell of these rows narrows 'for every input' (looked for: loops, veiled, ifaces, maps, wideKeys, modest, calm, conditions, laid).
  DERIVED. THE GIVEN ROWS OF THIS SEAT. 2 by the template 'for every input the law returns true; each argument reads behind the call as it read before'; 0 by the template 'total and deterministic' (their statements: Qxb6613178aTotals.lean).
  GIVEN WITH THE SEED: the statements are not yours to turn. If you find one false, say at which input.
  Laid BY PROGRAM, IN A SANDBOX (cutbox-rows.mjs): the forced cells as the released guide's own fill.sh prints them over the translation 97023794183e80d3… (all of the seat's roots in one cut). By AI agents, Wed Nov 11 2026. No macro, syntax, notation, axiom, sorry.
-/
import Derived.Test.Qxb6613178aChecked
import GoSem.Claim
import GoSem.ClaimJoined
import GoSem.ClaimMapViews
import Derived.JoinedTies
import Derived.KernelRfl
namespace Go.Proofs.Qxb6613178a
/- THE CELL 'sum', in the pinned program and in every row, IS THE sha256 OF THE DUMP (.gsa) THAT Qxb6613178aProg.lean LOADS. Nothing in Lean hashes anything: it is a label: what it is worth is what the hold of that sum in a sandbox is worth. -/
noncomputable def Try.pinned : Pinned := { name := "qxb6613178a", sum := "97023794183e80d3a1acb3b8428adb291d5aa84fcb228e0e344e188d83617392", checked := Try.checked }
namespace Rows
def none {H : Type} : Left H := { results := [], args := [] }

/-- 'zzlaws_internal_persistent_b1.FnCheckpointStreamParsesBackAndIsInjective': WHATEVER THE INPUT: true; the input reads as it did. -/
def fnCheckpointStreamParsesBackAndIsInjectiveSpec : ChangeSpec := { name := "fnCheckpointStreamParsesBackAndIsInjective", fn := fun _ => fun
  | [d1, d2, d3, d4] => { results := [.lit (.bool true)], args := [d1, d2, d3, d4] }
  | _ => none }
def fnCheckpointStreamParsesBackAndIsInjectiveRow : OpenClaim := { program := "qxb6613178a", sum := "97023794183e80d3a1acb3b8428adb291d5aa84fcb228e0e344e188d83617392", func := "example.com/greffier/greffier/zzlaws_internal_persistent_b1.FnCheckpointStreamParsesBackAndIsInjective", spec := "fnCheckpointStreamParsesBackAndIsInjective", plainKeys := false, apart := false }
def FnCheckpointStreamParsesBackAndIsInjectiveSaid : Prop := fnCheckpointStreamParsesBackAndIsInjectiveRow.holds Try.pinned (OpenSpec.ofChange fnCheckpointStreamParsesBackAndIsInjectiveSpec)

/-- ITS FALSE NEIGHBOUR: 'it returns false'. Refute it at one input. -/
def fnCheckpointStreamParsesBackAndIsInjectiveWrong : ChangeSpec := { name := "fnCheckpointStreamParsesBackAndIsInjective", fn := fun _ => fun
  | [d1, d2, d3, d4] => { results := [.lit (.bool false)], args := [d1, d2, d3, d4] }
  | _ => none }
def FnCheckpointStreamParsesBackAndIsInjectiveWrongFalsely : Prop := fnCheckpointStreamParsesBackAndIsInjectiveRow.holds Try.pinned (OpenSpec.ofChange fnCheckpointStreamParsesBackAndIsInjectiveWrong)

/-- 'zzlaws_internal_persistent_b1.FnSignalCoalescesUpToWakeRoom': WHATEVER THE INPUT: true; the input reads as it did. -/
def fnSignalCoalescesUpToWakeRoomSpec : ChangeSpec := { name := "fnSignalCoalescesUpToWakeRoom", fn := fun _ => fun
  | [d1, d2] => { results := [.lit (.bool true)], args := [d1, d2] }
  | _ => none }
def fnSignalCoalescesUpToWakeRoomRow : OpenClaim := { program := "qxb6613178a", sum := "97023794183e80d3a1acb3b8428adb291d5aa84fcb228e0e344e188d83617392", func := "example.com/greffier/greffier/zzlaws_internal_persistent_b1.FnSignalCoalescesUpToWakeRoom", spec := "fnSignalCoalescesUpToWakeRoom", plainKeys := false, apart := false }
def FnSignalCoalescesUpToWakeRoomSaid : Prop := fnSignalCoalescesUpToWakeRoomRow.holds Try.pinned (OpenSpec.ofChange fnSignalCoalescesUpToWakeRoomSpec)

/-- ITS FALSE NEIGHBOUR: 'it returns false'. Refute it at one input. -/
def fnSignalCoalescesUpToWakeRoomWrong : ChangeSpec := { name := "fnSignalCoalescesUpToWakeRoom", fn := fun _ => fun
  | [d1, d2] => { results := [.lit (.bool false)], args := [d1, d2] }
  | _ => none }
def FnSignalCoalescesUpToWakeRoomWrongFalsely : Prop := fnSignalCoalescesUpToWakeRoomRow.holds Try.pinned (OpenSpec.ofChange fnSignalCoalescesUpToWakeRoomWrong)

end Rows
end Go.Proofs.Qxb6613178a
