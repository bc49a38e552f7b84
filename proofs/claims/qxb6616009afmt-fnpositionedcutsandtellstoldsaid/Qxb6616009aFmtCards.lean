/-
  DERIVED. GIVEN WITH THE SEED: THE CARDS: each row of Qxb6616009aFmtRows.lean that lists a variable, with what it lists TIED to the program's text (the seventh form; the later family's looks); each row that meets fmt, with fmt's text TOLD by the authors' own Lean function (tested against real Go, not proved from fmt's source: count such statements apart). THE CARD IS WHAT COUNTS. Prove the row's statement (the work); the ties are given (Qxb6616009aFmtTie.lean); close each card by the builder's one call (the guide's Derived/Test/ToyasCard.lean, 'card_holds'). Laid BY PROGRAM, IN A SANDBOX (cutbox-door.mjs). By AI agents, Wed Nov 11 2026. No macro, syntax, notation, axiom, sorry.
-/
import Derived.Test.Qxb6616009aFmtRows
import GoSem.ClaimSeven
namespace Go.Proofs.Qxb6616009aFmt
namespace Rows

/-- THE TOLD CARD OF 'zzlaws_root_b1.FnPositionedCutsAndTells'. -/
def fnPositionedCutsAndTellsCard : Claim7 := { stood := { row := fnPositionedCutsAndTellsRow, standIns := [], harness := (true, "d982e603f32824b66fe1a72e8a64d208320318b9c76d0cfa13e5a199a3c1be8f"), looks := false }, told := true, goes := false }
def FnPositionedCutsAndTellsToldSaid : Prop := Claim7.holds Tryf.pinned (.plain (OpenSpec.ofChange fnPositionedCutsAndTellsSpec)) fnPositionedCutsAndTellsCard
/-- ITS FALSE NEIGHBOUR. Refute it at one input. -/
def FnPositionedCutsAndTellsToldWrongFalsely : Prop := Claim7.holds Tryf.pinned (.plain (OpenSpec.ofChange fnPositionedCutsAndTellsWrong)) fnPositionedCutsAndTellsCard
end Rows
end Go.Proofs.Qxb6616009aFmt
