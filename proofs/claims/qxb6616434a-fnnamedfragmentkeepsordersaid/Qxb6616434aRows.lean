/-
  No cell of these rows narrows 'for every input' (looked for: loops, veiled, ifaces, maps, wideKeys, modest, calm, conditions, laid).
  DERIVED. THE GIVEN ROWS OF THIS SEAT. 3 by the template 'for every input the law returns true; each argument reads behind the call as it read before'; 0 by the template 'total and deterministic' (their statements: Qxb6616434aTotals.lean).
  GIVEN WITH THE SEED: the statements are not yours to turn. If you find one false, say at which input.
  Laid BY PROGRAM, IN A SANDBOX (cutbox-rows.mjs): the forced cells as the released guide's own fill.sh prints them over the translation 7e595943deaf8ab1… (all of the seat's roots in one cut). By AI agents, Wed Nov 11 2026. No macro, syntax, notation, axiom, sorry.
-/
import Derived.Test.Qxb6616434aChecked
import GoSem.Claim
import GoSem.ClaimJoined
import GoSem.ClaimMapViews
import Derived.JoinedTies
import Derived.KernelRfl
namespace Go.Proofs.Qxb6616434a
/- THE CELL 'sum', in the pinned program and in every row, IS THE sha256 OF THE DUMP (.gsa) THAT Qxb6616434aProg.lean LOADS. Nothing in Lean hashes anything: it is a label: what it is worth is what the hold of that sum in a sandbox is worth. -/
noncomputable def Try.pinned : Pinned := { name := "qxb6616434a", sum := "7e595943deaf8ab12cbc7f95fdb8cba333c24f34f7c370b1e4510b0e738df782", checked := Try.checked }
namespace Rows
def none {H : Type} : Left H := { results := [], args := [] }

/-- 'zzlaws_root_b1.FnNamedFragmentJoins': WHATEVER THE INPUT: true; the input reads as it did. -/
def fnNamedFragmentJoinsSpec : ChangeSpec := { name := "fnNamedFragmentJoins", fn := fun _ => fun
  | [d1, d2] => { results := [.lit (.bool true)], args := [d1, d2] }
  | _ => none }
def fnNamedFragmentJoinsRow : OpenClaim := { program := "qxb6616434a", sum := "7e595943deaf8ab12cbc7f95fdb8cba333c24f34f7c370b1e4510b0e738df782", func := "example.com/resolvent/resolvent/zzlaws_root_b1.FnNamedFragmentJoins", spec := "fnNamedFragmentJoins", apart := false }
def FnNamedFragmentJoinsSaid : Prop := fnNamedFragmentJoinsRow.holds Try.pinned (OpenSpec.ofChange fnNamedFragmentJoinsSpec)

/-- ITS FALSE NEIGHBOUR: 'it returns false'. Refute it at one input. -/
def fnNamedFragmentJoinsWrong : ChangeSpec := { name := "fnNamedFragmentJoins", fn := fun _ => fun
  | [d1, d2] => { results := [.lit (.bool false)], args := [d1, d2] }
  | _ => none }
def FnNamedFragmentJoinsWrongFalsely : Prop := fnNamedFragmentJoinsRow.holds Try.pinned (OpenSpec.ofChange fnNamedFragmentJoinsWrong)

/-- 'zzlaws_root_b1.FnNamedFragmentKeepsOrder': WHATEVER THE INPUT: true; the input reads as it did. -/
def fnNamedFragmentKeepsOrderSpec : ChangeSpec := { name := "fnNamedFragmentKeepsOrder", fn := fun _ => fun
  | [d1, d2] => { results := [.lit (.bool true)], args := [d1, d2] }
  | _ => none }
def fnNamedFragmentKeepsOrderRow : OpenClaim := { program := "qxb6616434a", sum := "7e595943deaf8ab12cbc7f95fdb8cba333c24f34f7c370b1e4510b0e738df782", func := "example.com/resolvent/resolvent/zzlaws_root_b1.FnNamedFragmentKeepsOrder", spec := "fnNamedFragmentKeepsOrder", apart := false }
def FnNamedFragmentKeepsOrderSaid : Prop := fnNamedFragmentKeepsOrderRow.holds Try.pinned (OpenSpec.ofChange fnNamedFragmentKeepsOrderSpec)

/-- ITS FALSE NEIGHBOUR: 'it returns false'. Refute it at one input. -/
def fnNamedFragmentKeepsOrderWrong : ChangeSpec := { name := "fnNamedFragmentKeepsOrder", fn := fun _ => fun
  | [d1, d2] => { results := [.lit (.bool false)], args := [d1, d2] }
  | _ => none }
def FnNamedFragmentKeepsOrderWrongFalsely : Prop := fnNamedFragmentKeepsOrderRow.holds Try.pinned (OpenSpec.ofChange fnNamedFragmentKeepsOrderWrong)

/-- 'zzlaws_root_b1.FnGuardedTwiceInnerNames': WHATEVER THE INPUT: true; the input reads as it did. -/
def fnGuardedTwiceInnerNamesSpec : ChangeSpec := { name := "fnGuardedTwiceInnerNames", fn := fun _ => fun
  | [d1, d2, d3, d4, d5, d6] => { results := [.lit (.bool true)], args := [d1, d2, d3, d4, d5, d6] }
  | _ => none }
def fnGuardedTwiceInnerNamesRow : OpenClaim := { program := "qxb6616434a", sum := "7e595943deaf8ab12cbc7f95fdb8cba333c24f34f7c370b1e4510b0e738df782", func := "example.com/resolvent/resolvent/zzlaws_root_b1.FnGuardedTwiceInnerNames", spec := "fnGuardedTwiceInnerNames", inPlace := ["runtime.Stack"], unfollowed := true, recurses := true, apart := false }
def FnGuardedTwiceInnerNamesSaid : Prop := fnGuardedTwiceInnerNamesRow.holds Try.pinned (OpenSpec.ofChange fnGuardedTwiceInnerNamesSpec)

/-- ITS FALSE NEIGHBOUR: 'it returns false'. Refute it at one input. -/
def fnGuardedTwiceInnerNamesWrong : ChangeSpec := { name := "fnGuardedTwiceInnerNames", fn := fun _ => fun
  | [d1, d2, d3, d4, d5, d6] => { results := [.lit (.bool false)], args := [d1, d2, d3, d4, d5, d6] }
  | _ => none }
def FnGuardedTwiceInnerNamesWrongFalsely : Prop := fnGuardedTwiceInnerNamesRow.holds Try.pinned (OpenSpec.ofChange fnGuardedTwiceInnerNamesWrong)

end Rows
end Go.Proofs.Qxb6616434a
