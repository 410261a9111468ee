/-
  DERIVED. GIVEN WITH THE SEED: THE CARDS: each row of Qxb6631229aFmtRows.lean that lists a variable, with what it lists TIED to the program's text (the seventh form; the later family's looks); each row that meets fmt, with fmt's text TOLD by the authors' own Lean function (tested against real Go, not proved from fmt's source: count such statements apart). THE CARD IS WHAT COUNTS. Prove the row's statement (the work); the ties are given (Qxb6631229aFmtTie.lean); close each card by the builder's one call (the guide's Derived/Test/ToyasCard.lean, 'card_holds'). Laid BY PROGRAM, IN A SANDBOX (cutbox-door.mjs). By AI agents, Wed Nov 11 2026. No macro, syntax, notation, axiom, sorry.
-/
import Derived.Test.Qxb6631229aFmtRows
import GoSem.ClaimSeven
namespace Go.Proofs.Qxb6631229aFmt
namespace Rows

/-- THE TOLD CARD OF 'zzlaws_root_b1.FnListLimitWindowCount'. -/
def fnListLimitWindowCountCard : Claim7 := { stood := { row := fnListLimitWindowCountRow, standIns := [], harness := (true, "a21349e8532de3675c3966d68107b11855f3157117cbd4d56280fb12430d88aa"), looks := false }, told := true, goes := false }
def FnListLimitWindowCountToldSaid : Prop := Claim7.holds Tryf.pinned (.plain (OpenSpec.ofChange fnListLimitWindowCountSpec)) fnListLimitWindowCountCard
/-- ITS FALSE NEIGHBOUR. Refute it at one input. -/
def FnListLimitWindowCountToldWrongFalsely : Prop := Claim7.holds Tryf.pinned (.plain (OpenSpec.ofChange fnListLimitWindowCountWrong)) fnListLimitWindowCountCard

/-- THE TOLD CARD OF 'zzlaws_root_b1.FnListLimitShiftByMaxTiles'. -/
def fnListLimitShiftByMaxTilesCard : Claim7 := { stood := { row := fnListLimitShiftByMaxTilesRow, standIns := [], harness := (true, "a21349e8532de3675c3966d68107b11855f3157117cbd4d56280fb12430d88aa"), looks := false }, told := true, goes := false }
def FnListLimitShiftByMaxTilesToldSaid : Prop := Claim7.holds Tryf.pinned (.plain (OpenSpec.ofChange fnListLimitShiftByMaxTilesSpec)) fnListLimitShiftByMaxTilesCard
/-- ITS FALSE NEIGHBOUR. Refute it at one input. -/
def FnListLimitShiftByMaxTilesToldWrongFalsely : Prop := Claim7.holds Tryf.pinned (.plain (OpenSpec.ofChange fnListLimitShiftByMaxTilesWrong)) fnListLimitShiftByMaxTilesCard
end Rows
end Go.Proofs.Qxb6631229aFmt
