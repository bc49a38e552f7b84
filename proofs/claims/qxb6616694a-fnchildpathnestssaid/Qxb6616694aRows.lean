/-
  No cell of these rows narrows 'for every input' (looked for: loops, veiled, ifaces, maps, wideKeys, modest, calm, conditions, laid).
  DERIVED. THE GIVEN ROWS OF THIS SEAT. 1 by the template 'for every input the law returns true; each argument reads behind the call as it read before'; 0 by the template 'total and deterministic' (their statements: Qxb6616694aTotals.lean).
  GIVEN WITH THE SEED: the statements are not yours to turn. If you find one false, say at which input.
  Laid BY PROGRAM, IN A SANDBOX (cutbox-rows.mjs): the forced cells as the released guide's own fill.sh prints them over the translation d2040848a65d2b9f… (all of the seat's roots in one cut). By AI agents, Wed Nov 11 2026. No macro, syntax, notation, axiom, sorry.
-/
import Derived.Test.Qxb6616694aChecked
import GoSem.Claim
import GoSem.ClaimJoined
import GoSem.ClaimMapViews
import Derived.JoinedTies
import Derived.KernelRfl
namespace Go.Proofs.Qxb6616694a
/- THE CELL 'sum', in the pinned program and in every row, IS THE sha256 OF THE DUMP (.gsa) THAT Qxb6616694aProg.lean LOADS. Nothing in Lean hashes anything: it is a label: what it is worth is what the hold of that sum in a sandbox is worth. -/
noncomputable def Try.pinned : Pinned := { name := "qxb6616694a", sum := "d2040848a65d2b9f704e0713aadd8b4cf14aa3f14b322b94b0c3c5e9b7618155", checked := Try.checked }
namespace Rows
def none {H : Type} : Left H := { results := [], args := [] }

/-- 'zzlaws_root_b1.FnChildPathNests': WHATEVER THE INPUT: true; the input reads as it did. -/
def fnChildPathNestsSpec : ChangeSpec := { name := "fnChildPathNests", fn := fun _ => fun
  | [d1, d2, d3] => { results := [.lit (.bool true)], args := [d1, d2, d3] }
  | _ => none }
def fnChildPathNestsRow : OpenClaim := { program := "qxb6616694a", sum := "d2040848a65d2b9f704e0713aadd8b4cf14aa3f14b322b94b0c3c5e9b7618155", func := "example.com/tenure/tenure/zzlaws_root_b1.FnChildPathNests", spec := "fnChildPathNests", apart := false }
def FnChildPathNestsSaid : Prop := fnChildPathNestsRow.holds Try.pinned (OpenSpec.ofChange fnChildPathNestsSpec)

/-- ITS FALSE NEIGHBOUR: 'it returns false'. Refute it at one input. -/
def fnChildPathNestsWrong : ChangeSpec := { name := "fnChildPathNests", fn := fun _ => fun
  | [d1, d2, d3] => { results := [.lit (.bool false)], args := [d1, d2, d3] }
  | _ => none }
def FnChildPathNestsWrongFalsely : Prop := fnChildPathNestsRow.holds Try.pinned (OpenSpec.ofChange fnChildPathNestsWrong)

end Rows
end Go.Proofs.Qxb6616694a
