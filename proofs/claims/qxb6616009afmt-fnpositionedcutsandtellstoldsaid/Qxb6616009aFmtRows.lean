/-
  No cell of these rows narrows 'for every input' (looked for: loops, veiled, ifaces, maps, wideKeys, modest, calm, conditions, laid).
  DERIVED. THE GIVEN ROWS OF THIS SEAT. 1 by the template 'for every input the law returns true; each argument reads behind the call as it read before'; 0 by the template 'total and deterministic' (their statements: Qxb6616009aFmtTotals.lean).
  GIVEN WITH THE SEED: the statements are not yours to turn. If you find one false, say at which input.
  Laid BY PROGRAM, IN A SANDBOX (cutbox-rows.mjs): the forced cells as the released guide's own fill.sh prints them over the translation 19922574ea735100… (all of the seat's roots in one cut). By AI agents, Wed Nov 11 2026. No macro, syntax, notation, axiom, sorry.
-/
import Derived.Test.Qxb6616009aFmtChecked
import GoSem.Claim
import GoSem.ClaimJoined
import GoSem.ClaimMapViews
import Derived.JoinedTies
import Derived.KernelRfl
namespace Go.Proofs.Qxb6616009aFmt
/- THE CELL 'sum', in the pinned program and in every row, IS THE sha256 OF THE DUMP (.gsa) THAT Qxb6616009aFmtProg.lean LOADS. Nothing in Lean hashes anything: it is a label: what it is worth is what the hold of that sum in a sandbox is worth. -/
noncomputable def Tryf.pinned : Pinned := { name := "qxb6616009afmt", sum := "19922574ea7351008fb03def212e0e1783f32fc3de21f9c07e34939f3dd2c8a2", checked := Tryf.checked }
namespace Rows
def none {H : Type} : Left H := { results := [], args := [] }

/-- 'zzlaws_root_b1.FnPositionedCutsAndTells': WHATEVER THE INPUT: true; the input reads as it did. -/
def fnPositionedCutsAndTellsSpec : ChangeSpec := { name := "fnPositionedCutsAndTells", fn := fun _ => fun
  | [d1, d2, d3, d4, d5, d6] => { results := [.lit (.bool true)], args := [d1, d2, d3, d4, d5, d6] }
  | _ => none }
def fnPositionedCutsAndTellsRow : OpenClaim := { program := "qxb6616009afmt", sum := "19922574ea7351008fb03def212e0e1783f32fc3de21f9c07e34939f3dd2c8a2", func := "example.com/brackets-to-tables/brackets-to-tables/zzlaws_root_b1.FnPositionedCutsAndTells", spec := "fnPositionedCutsAndTells", stops := ["fmt.Sprintf"], inPlace := ["fmt.Sprintf"], apart := false }
/-- NO THEOREM (fmt's text is open here; it may be false): for the released tool's asking of the row's closed facts alone. THE STATEMENT IS 'FnPositionedCutsAndTellsToldSaid' (Qxb6616009aFmtCards.lean). -/
def FnPositionedCutsAndTellsFormAsk : Prop := fnPositionedCutsAndTellsRow.holds Tryf.pinned (OpenSpec.ofChange fnPositionedCutsAndTellsSpec)

/-- ITS FALSE NEIGHBOUR: 'it returns false'. Refute it at one input. -/
def fnPositionedCutsAndTellsWrong : ChangeSpec := { name := "fnPositionedCutsAndTells", fn := fun _ => fun
  | [d1, d2, d3, d4, d5, d6] => { results := [.lit (.bool false)], args := [d1, d2, d3, d4, d5, d6] }
  | _ => none }
def FnPositionedCutsAndTellsWrongFormAsk : Prop := fnPositionedCutsAndTellsRow.holds Tryf.pinned (OpenSpec.ofChange fnPositionedCutsAndTellsWrong)

end Rows
end Go.Proofs.Qxb6616009aFmt
