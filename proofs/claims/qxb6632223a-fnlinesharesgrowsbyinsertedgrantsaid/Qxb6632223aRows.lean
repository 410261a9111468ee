/-
  No cell of these rows narrows 'for every input' (looked for: loops, veiled, ifaces, maps, wideKeys, modest, calm, conditions, laid).
  DERIVED. THE GIVEN ROWS OF THIS SEAT. 2 by the template 'for every input the law returns true; each argument reads behind the call as it read before'; 0 by the template 'total and deterministic' (their statements: Qxb6632223aTotals.lean).
  GIVEN WITH THE SEED: the statements are not yours to turn. If you find one false, say at which input.
  Laid BY PROGRAM, IN A SANDBOX (cutbox-rows.mjs): the forced cells as the released guide's own fill.sh prints them over the translation 798ca443c7fe9839… (all of the seat's roots in one cut). By AI agents, Wed Nov 11 2026. No macro, syntax, notation, axiom, sorry.
-/
import Derived.Test.Qxb6632223aChecked
import GoSem.Claim
import GoSem.ClaimJoined
import GoSem.ClaimMapViews
import Derived.JoinedTies
import Derived.KernelRfl
namespace Go.Proofs.Qxb6632223a
/- THE CELL 'sum', in the pinned program and in every row, IS THE sha256 OF THE DUMP (.gsa) THAT Qxb6632223aProg.lean LOADS. Nothing in Lean hashes anything: it is a label: what it is worth is what the hold of that sum in a sandbox is worth. -/
noncomputable def Try.pinned : Pinned := { name := "qxb6632223a", sum := "798ca443c7fe9839c1729d37ee283516e613eb938ccd167f00f6e87847e66490", checked := Try.checked }
namespace Rows
def none {H : Type} : Left H := { results := [], args := [] }

/-- 'zzlaws_internal_plan_b1.FnLineSharesSplitsAtAnyCut': WHATEVER THE INPUT: true; the input reads as it did. -/
def fnLineSharesSplitsAtAnyCutSpec : ChangeSpec := { name := "fnLineSharesSplitsAtAnyCut", fn := fun _ => fun
  | [d1, d2, d3, d4, d5, d6, d7, d8] => { results := [.lit (.bool true)], args := [d1, d2, d3, d4, d5, d6, d7, d8] }
  | _ => none }
def fnLineSharesSplitsAtAnyCutRow : OpenClaim := { program := "qxb6632223a", sum := "798ca443c7fe9839c1729d37ee283516e613eb938ccd167f00f6e87847e66490", func := "example.com/vestbook/vestbook/zzlaws_internal_plan_b1.FnLineSharesSplitsAtAnyCut", spec := "fnLineSharesSplitsAtAnyCut", apart := false }
def FnLineSharesSplitsAtAnyCutSaid : Prop := fnLineSharesSplitsAtAnyCutRow.holds Try.pinned (OpenSpec.ofChange fnLineSharesSplitsAtAnyCutSpec)

/-- ITS FALSE NEIGHBOUR: 'it returns false'. Refute it at one input. -/
def fnLineSharesSplitsAtAnyCutWrong : ChangeSpec := { name := "fnLineSharesSplitsAtAnyCut", fn := fun _ => fun
  | [d1, d2, d3, d4, d5, d6, d7, d8] => { results := [.lit (.bool false)], args := [d1, d2, d3, d4, d5, d6, d7, d8] }
  | _ => none }
def FnLineSharesSplitsAtAnyCutWrongFalsely : Prop := fnLineSharesSplitsAtAnyCutRow.holds Try.pinned (OpenSpec.ofChange fnLineSharesSplitsAtAnyCutWrong)

/-- 'zzlaws_internal_plan_b1.FnLineSharesGrowsByInsertedGrant': WHATEVER THE INPUT: true; the input reads as it did. -/
def fnLineSharesGrowsByInsertedGrantSpec : ChangeSpec := { name := "fnLineSharesGrowsByInsertedGrant", fn := fun _ => fun
  | [d1, d2, d3, d4, d5, d6, d7, d8, d9, d10, d11] => { results := [.lit (.bool true)], args := [d1, d2, d3, d4, d5, d6, d7, d8, d9, d10, d11] }
  | _ => none }
def fnLineSharesGrowsByInsertedGrantRow : OpenClaim := { program := "qxb6632223a", sum := "798ca443c7fe9839c1729d37ee283516e613eb938ccd167f00f6e87847e66490", func := "example.com/vestbook/vestbook/zzlaws_internal_plan_b1.FnLineSharesGrowsByInsertedGrant", spec := "fnLineSharesGrowsByInsertedGrant", apart := false }
def FnLineSharesGrowsByInsertedGrantSaid : Prop := fnLineSharesGrowsByInsertedGrantRow.holds Try.pinned (OpenSpec.ofChange fnLineSharesGrowsByInsertedGrantSpec)

/-- ITS FALSE NEIGHBOUR: 'it returns false'. Refute it at one input. -/
def fnLineSharesGrowsByInsertedGrantWrong : ChangeSpec := { name := "fnLineSharesGrowsByInsertedGrant", fn := fun _ => fun
  | [d1, d2, d3, d4, d5, d6, d7, d8, d9, d10, d11] => { results := [.lit (.bool false)], args := [d1, d2, d3, d4, d5, d6, d7, d8, d9, d10, d11] }
  | _ => none }
def FnLineSharesGrowsByInsertedGrantWrongFalsely : Prop := fnLineSharesGrowsByInsertedGrantRow.holds Try.pinned (OpenSpec.ofChange fnLineSharesGrowsByInsertedGrantWrong)

end Rows
end Go.Proofs.Qxb6632223a
