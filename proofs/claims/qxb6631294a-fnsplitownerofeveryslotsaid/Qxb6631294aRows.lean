/-
  No cell of these rows narrows 'for every input' (looked for: loops, veiled, ifaces, maps, wideKeys, modest, calm, conditions, laid).
  DERIVED. THE GIVEN ROWS OF THIS SEAT. 2 by the template 'for every input the law returns true; each argument reads behind the call as it read before'; 0 by the template 'total and deterministic' (their statements: Qxb6631294aTotals.lean).
  GIVEN WITH THE SEED: the statements are not yours to turn. If you find one false, say at which input.
  Laid BY PROGRAM, IN A SANDBOX (cutbox-rows.mjs): the forced cells as the released guide's own fill.sh prints them over the translation de632e1ef2464f4b… (all of the seat's roots in one cut). By AI agents, Wed Nov 11 2026. No macro, syntax, notation, axiom, sorry.
-/
import Derived.Test.Qxb6631294aChecked
import GoSem.Claim
import GoSem.ClaimJoined
import GoSem.ClaimMapViews
import Derived.JoinedTies
import Derived.KernelRfl
namespace Go.Proofs.Qxb6631294a
/- THE CELL 'sum', in the pinned program and in every row, IS THE sha256 OF THE DUMP (.gsa) THAT Qxb6631294aProg.lean LOADS. Nothing in Lean hashes anything: it is a label: what it is worth is what the hold of that sum in a sandbox is worth. -/
noncomputable def Try.pinned : Pinned := { name := "qxb6631294a", sum := "de632e1ef2464f4bdf64f1d817b8135106588c80f619c4ef6f87d30a8ed9f31b", checked := Try.checked }
namespace Rows
def none {H : Type} : Left H := { results := [], args := [] }

/-- 'zzlaws_hashslot_b1.FnSplitIsBalancedPartition': WHATEVER THE INPUT: true; the input reads as it did. -/
def fnSplitIsBalancedPartitionSpec : ChangeSpec := { name := "fnSplitIsBalancedPartition", fn := fun _ => fun
  | [d] => { results := [.lit (.bool true)], args := [d] }
  | _ => none }
def fnSplitIsBalancedPartitionRow : OpenClaim := { program := "qxb6631294a", sum := "de632e1ef2464f4bdf64f1d817b8135106588c80f619c4ef6f87d30a8ed9f31b", func := "example.com/hearsay/hearsay/zzlaws_hashslot_b1.FnSplitIsBalancedPartition", spec := "fnSplitIsBalancedPartition", apart := false }
def FnSplitIsBalancedPartitionSaid : Prop := fnSplitIsBalancedPartitionRow.holds Try.pinned (OpenSpec.ofChange fnSplitIsBalancedPartitionSpec)

/-- ITS FALSE NEIGHBOUR: 'it returns false'. Refute it at one input. -/
def fnSplitIsBalancedPartitionWrong : ChangeSpec := { name := "fnSplitIsBalancedPartition", fn := fun _ => fun
  | [d] => { results := [.lit (.bool false)], args := [d] }
  | _ => none }
def FnSplitIsBalancedPartitionWrongFalsely : Prop := fnSplitIsBalancedPartitionRow.holds Try.pinned (OpenSpec.ofChange fnSplitIsBalancedPartitionWrong)

/-- 'zzlaws_hashslot_b1.FnSplitOwnerOfEverySlot': WHATEVER THE INPUT: true; the input reads as it did. -/
def fnSplitOwnerOfEverySlotSpec : ChangeSpec := { name := "fnSplitOwnerOfEverySlot", fn := fun _ => fun
  | [d] => { results := [.lit (.bool true)], args := [d] }
  | _ => none }
def fnSplitOwnerOfEverySlotRow : OpenClaim := { program := "qxb6631294a", sum := "de632e1ef2464f4bdf64f1d817b8135106588c80f619c4ef6f87d30a8ed9f31b", func := "example.com/hearsay/hearsay/zzlaws_hashslot_b1.FnSplitOwnerOfEverySlot", spec := "fnSplitOwnerOfEverySlot", apart := false }
def FnSplitOwnerOfEverySlotSaid : Prop := fnSplitOwnerOfEverySlotRow.holds Try.pinned (OpenSpec.ofChange fnSplitOwnerOfEverySlotSpec)

/-- ITS FALSE NEIGHBOUR: 'it returns false'. Refute it at one input. -/
def fnSplitOwnerOfEverySlotWrong : ChangeSpec := { name := "fnSplitOwnerOfEverySlot", fn := fun _ => fun
  | [d] => { results := [.lit (.bool false)], args := [d] }
  | _ => none }
def FnSplitOwnerOfEverySlotWrongFalsely : Prop := fnSplitOwnerOfEverySlotRow.holds Try.pinned (OpenSpec.ofChange fnSplitOwnerOfEverySlotWrong)

end Rows
end Go.Proofs.Qxb6631294a
