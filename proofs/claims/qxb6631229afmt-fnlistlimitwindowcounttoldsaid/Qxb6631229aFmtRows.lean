/-
  No cell of these rows narrows 'for every input' (looked for: loops, veiled, ifaces, maps, wideKeys, modest, calm, conditions, laid).
  DERIVED. THE GIVEN ROWS OF THIS SEAT. 2 by the template 'for every input the law returns true; each argument reads behind the call as it read before'; 0 by the template 'total and deterministic' (their statements: Qxb6631229aFmtTotals.lean).
  GIVEN WITH THE SEED: the statements are not yours to turn. If you find one false, say at which input.
  Laid BY PROGRAM, IN A SANDBOX (cutbox-rows.mjs): the forced cells as the released guide's own fill.sh prints them over the translation 414b453eac91f732… (all of the seat's roots in one cut). By AI agents, Wed Nov 11 2026. No macro, syntax, notation, axiom, sorry.
-/
import Derived.Test.Qxb6631229aFmtChecked
import GoSem.Claim
import GoSem.ClaimJoined
import GoSem.ClaimMapViews
import Derived.JoinedTies
import Derived.KernelRfl
namespace Go.Proofs.Qxb6631229aFmt
/- THE CELL 'sum', in the pinned program and in every row, IS THE sha256 OF THE DUMP (.gsa) THAT Qxb6631229aFmtProg.lean LOADS. Nothing in Lean hashes anything: it is a label: what it is worth is what the hold of that sum in a sandbox is worth. -/
noncomputable def Tryf.pinned : Pinned := { name := "qxb6631229afmt", sum := "414b453eac91f732e10054ed88de918e5281bceb5c85f8f654c9b9cb3e278f95", checked := Tryf.checked }
namespace Rows
def none {H : Type} : Left H := { results := [], args := [] }

/-- 'zzlaws_root_b1.FnListLimitWindowCount': WHATEVER THE INPUT: true; the input reads as it did. -/
def fnListLimitWindowCountSpec : ChangeSpec := { name := "fnListLimitWindowCount", fn := fun _ => fun
  | [d1, d2] => { results := [.lit (.bool true)], args := [d1, d2] }
  | _ => none }
def fnListLimitWindowCountRow : OpenClaim := { program := "qxb6631229afmt", sum := "414b453eac91f732e10054ed88de918e5281bceb5c85f8f654c9b9cb3e278f95", func := "example.com/tenure/tenure/zzlaws_root_b1.FnListLimitWindowCount", spec := "fnListLimitWindowCount", stops := ["fmt.errorf"], inPlace := ["fmt.errorf"], apart := false }
/-- NO THEOREM (fmt's text is open here; it may be false): for the released tool's asking of the row's closed facts alone. THE STATEMENT IS 'FnListLimitWindowCountToldSaid' (Qxb6631229aFmtCards.lean). -/
def FnListLimitWindowCountFormAsk : Prop := fnListLimitWindowCountRow.holds Tryf.pinned (OpenSpec.ofChange fnListLimitWindowCountSpec)

/-- ITS FALSE NEIGHBOUR: 'it returns false'. Refute it at one input. -/
def fnListLimitWindowCountWrong : ChangeSpec := { name := "fnListLimitWindowCount", fn := fun _ => fun
  | [d1, d2] => { results := [.lit (.bool false)], args := [d1, d2] }
  | _ => none }
def FnListLimitWindowCountWrongFormAsk : Prop := fnListLimitWindowCountRow.holds Tryf.pinned (OpenSpec.ofChange fnListLimitWindowCountWrong)

/-- 'zzlaws_root_b1.FnListLimitShiftByMaxTiles': WHATEVER THE INPUT: true; the input reads as it did. -/
def fnListLimitShiftByMaxTilesSpec : ChangeSpec := { name := "fnListLimitShiftByMaxTiles", fn := fun _ => fun
  | [d] => { results := [.lit (.bool true)], args := [d] }
  | _ => none }
def fnListLimitShiftByMaxTilesRow : OpenClaim := { program := "qxb6631229afmt", sum := "414b453eac91f732e10054ed88de918e5281bceb5c85f8f654c9b9cb3e278f95", func := "example.com/tenure/tenure/zzlaws_root_b1.FnListLimitShiftByMaxTiles", spec := "fnListLimitShiftByMaxTiles", stops := ["fmt.errorf"], inPlace := ["fmt.errorf"], apart := false }
/-- NO THEOREM (fmt's text is open here; it may be false): for the released tool's asking of the row's closed facts alone. THE STATEMENT IS 'FnListLimitShiftByMaxTilesToldSaid' (Qxb6631229aFmtCards.lean). -/
def FnListLimitShiftByMaxTilesFormAsk : Prop := fnListLimitShiftByMaxTilesRow.holds Tryf.pinned (OpenSpec.ofChange fnListLimitShiftByMaxTilesSpec)

/-- ITS FALSE NEIGHBOUR: 'it returns false'. Refute it at one input. -/
def fnListLimitShiftByMaxTilesWrong : ChangeSpec := { name := "fnListLimitShiftByMaxTiles", fn := fun _ => fun
  | [d] => { results := [.lit (.bool false)], args := [d] }
  | _ => none }
def FnListLimitShiftByMaxTilesWrongFormAsk : Prop := fnListLimitShiftByMaxTilesRow.holds Tryf.pinned (OpenSpec.ofChange fnListLimitShiftByMaxTilesWrong)

end Rows
end Go.Proofs.Qxb6631229aFmt
