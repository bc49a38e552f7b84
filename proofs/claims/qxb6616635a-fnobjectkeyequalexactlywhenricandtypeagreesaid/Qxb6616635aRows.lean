/-
  No cell of these rows narrows 'for every input' (looked for: loops, veiled, ifaces, maps, wideKeys, modest, calm, conditions, laid).
  DERIVED. THE GIVEN ROWS OF THIS SEAT. 1 by the template 'for every input the law returns true; each argument reads behind the call as it read before'; 0 by the template 'total and deterministic' (their statements: Qxb6616635aTotals.lean).
  GIVEN WITH THE SEED: the statements are not yours to turn. If you find one false, say at which input.
  Laid BY PROGRAM, IN A SANDBOX (cutbox-rows.mjs): the forced cells as the released guide's own fill.sh prints them over the translation 44d27a0138419ca1… (all of the seat's roots in one cut). By AI agents, Wed Nov 11 2026. No macro, syntax, notation, axiom, sorry.
-/
import Derived.Test.Qxb6616635aChecked
import GoSem.Claim
import GoSem.ClaimJoined
import GoSem.ClaimMapViews
import Derived.JoinedTies
import Derived.KernelRfl
namespace Go.Proofs.Qxb6616635a
/- THE CELL 'sum', in the pinned program and in every row, IS THE sha256 OF THE DUMP (.gsa) THAT Qxb6616635aProg.lean LOADS. Nothing in Lean hashes anything: it is a label: what it is worth is what the hold of that sum in a sandbox is worth. -/
noncomputable def Try.pinned : Pinned := { name := "qxb6616635a", sum := "44d27a0138419ca10dc81794ef9cbf3c6d78ca08c62d8c0e16a1c19d6a38ee80", checked := Try.checked }
namespace Rows
def none {H : Type} : Left H := { results := [], args := [] }

/-- 'zzlaws_internal_nonrtric_b1.FnObjectKeyEqualExactlyWhenRICAndTypeAgree': WHATEVER THE INPUT: true; the input reads as it did. -/
def fnObjectKeyEqualExactlyWhenRICAndTypeAgreeSpec : ChangeSpec := { name := "fnObjectKeyEqualExactlyWhenRICAndTypeAgree", fn := fun _ => fun
  | [d1, d2, d3, d4, d5, d6] => { results := [.lit (.bool true)], args := [d1, d2, d3, d4, d5, d6] }
  | _ => none }
def fnObjectKeyEqualExactlyWhenRICAndTypeAgreeRow : OpenClaim := { program := "qxb6616635a", sum := "44d27a0138419ca10dc81794ef9cbf3c6d78ca08c62d8c0e16a1c19d6a38ee80", func := "example.com/lodestar/lodestar/zzlaws_internal_nonrtric_b1.FnObjectKeyEqualExactlyWhenRICAndTypeAgree", spec := "fnObjectKeyEqualExactlyWhenRICAndTypeAgree", apart := false }
def FnObjectKeyEqualExactlyWhenRICAndTypeAgreeSaid : Prop := fnObjectKeyEqualExactlyWhenRICAndTypeAgreeRow.holds Try.pinned (OpenSpec.ofChange fnObjectKeyEqualExactlyWhenRICAndTypeAgreeSpec)

/-- ITS FALSE NEIGHBOUR: 'it returns false'. Refute it at one input. -/
def fnObjectKeyEqualExactlyWhenRICAndTypeAgreeWrong : ChangeSpec := { name := "fnObjectKeyEqualExactlyWhenRICAndTypeAgree", fn := fun _ => fun
  | [d1, d2, d3, d4, d5, d6] => { results := [.lit (.bool false)], args := [d1, d2, d3, d4, d5, d6] }
  | _ => none }
def FnObjectKeyEqualExactlyWhenRICAndTypeAgreeWrongFalsely : Prop := fnObjectKeyEqualExactlyWhenRICAndTypeAgreeRow.holds Try.pinned (OpenSpec.ofChange fnObjectKeyEqualExactlyWhenRICAndTypeAgreeWrong)

end Rows
end Go.Proofs.Qxb6616635a
