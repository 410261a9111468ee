/-
  No cell of these rows narrows 'for every input' (looked for: loops, veiled, ifaces, maps, wideKeys, modest, calm, conditions, laid).
  DERIVED. THE GIVEN ROWS OF THIS SEAT. 2 by the template 'for every input the law returns true; each argument reads behind the call as it read before'; 0 by the template 'total and deterministic' (their statements: Qxb6631251aTotals.lean).
  GIVEN WITH THE SEED: the statements are not yours to turn. If you find one false, say at which input.
  Laid BY PROGRAM, IN A SANDBOX (cutbox-rows.mjs): the forced cells as the released guide's own fill.sh prints them over the translation c6bda588e7e65c66… (all of the seat's roots in one cut). By AI agents, Wed Nov 11 2026. No macro, syntax, notation, axiom, sorry.
-/
import Derived.Test.Qxb6631251aChecked
import GoSem.Claim
import GoSem.ClaimJoined
import GoSem.ClaimMapViews
import Derived.JoinedTies
import Derived.KernelRfl
namespace Go.Proofs.Qxb6631251a
/- THE CELL 'sum', in the pinned program and in every row, IS THE sha256 OF THE DUMP (.gsa) THAT Qxb6631251aProg.lean LOADS. Nothing in Lean hashes anything: it is a label: what it is worth is what the hold of that sum in a sandbox is worth. -/
noncomputable def Try.pinned : Pinned := { name := "qxb6631251a", sum := "c6bda588e7e65c663f289423cc58602457e4f93507ecd82e9815e1bac2d2a48d", checked := Try.checked }
namespace Rows
def none {H : Type} : Left H := { results := [], args := [] }

/-- 'zzlaws_internal_history_b1.FnCoversJoinsOverUnionOfFoundTypes': WHATEVER THE INPUT: true; the input reads as it did. -/
def fnCoversJoinsOverUnionOfFoundTypesSpec : ChangeSpec := { name := "fnCoversJoinsOverUnionOfFoundTypes", fn := fun _ => fun
  | [d1, d2, d3] => { results := [.lit (.bool true)], args := [d1, d2, d3] }
  | _ => none }
def fnCoversJoinsOverUnionOfFoundTypesRow : OpenClaim := { program := "qxb6631251a", sum := "c6bda588e7e65c663f289423cc58602457e4f93507ecd82e9815e1bac2d2a48d", func := "example.com/packwire/packwire/zzlaws_internal_history_b1.FnCoversJoinsOverUnionOfFoundTypes", spec := "fnCoversJoinsOverUnionOfFoundTypes", apart := false }
def FnCoversJoinsOverUnionOfFoundTypesSaid : Prop := fnCoversJoinsOverUnionOfFoundTypesRow.holds Try.pinned (OpenSpec.ofChange fnCoversJoinsOverUnionOfFoundTypesSpec)

/-- ITS FALSE NEIGHBOUR: 'it returns false'. Refute it at one input. -/
def fnCoversJoinsOverUnionOfFoundTypesWrong : ChangeSpec := { name := "fnCoversJoinsOverUnionOfFoundTypes", fn := fun _ => fun
  | [d1, d2, d3] => { results := [.lit (.bool false)], args := [d1, d2, d3] }
  | _ => none }
def FnCoversJoinsOverUnionOfFoundTypesWrongFalsely : Prop := fnCoversJoinsOverUnionOfFoundTypesRow.holds Try.pinned (OpenSpec.ofChange fnCoversJoinsOverUnionOfFoundTypesWrong)

/-- 'zzlaws_internal_history_b1.FnCoversAsksAgreeWithHas': WHATEVER THE INPUT: true; the input reads as it did. -/
def fnCoversAsksAgreeWithHasSpec : ChangeSpec := { name := "fnCoversAsksAgreeWithHas", fn := fun _ => fun
  | [d1, d2] => { results := [.lit (.bool true)], args := [d1, d2] }
  | _ => none }
def fnCoversAsksAgreeWithHasRow : OpenClaim := { program := "qxb6631251a", sum := "c6bda588e7e65c663f289423cc58602457e4f93507ecd82e9815e1bac2d2a48d", func := "example.com/packwire/packwire/zzlaws_internal_history_b1.FnCoversAsksAgreeWithHas", spec := "fnCoversAsksAgreeWithHas", apart := false }
def FnCoversAsksAgreeWithHasSaid : Prop := fnCoversAsksAgreeWithHasRow.holds Try.pinned (OpenSpec.ofChange fnCoversAsksAgreeWithHasSpec)

/-- ITS FALSE NEIGHBOUR: 'it returns false'. Refute it at one input. -/
def fnCoversAsksAgreeWithHasWrong : ChangeSpec := { name := "fnCoversAsksAgreeWithHas", fn := fun _ => fun
  | [d1, d2] => { results := [.lit (.bool false)], args := [d1, d2] }
  | _ => none }
def FnCoversAsksAgreeWithHasWrongFalsely : Prop := fnCoversAsksAgreeWithHasRow.holds Try.pinned (OpenSpec.ofChange fnCoversAsksAgreeWithHasWrong)

end Rows
end Go.Proofs.Qxb6631251a
