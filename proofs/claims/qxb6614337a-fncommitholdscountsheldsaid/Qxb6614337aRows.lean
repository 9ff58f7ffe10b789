/-
  No cell of these rows narrows 'for every input' (looked for: loops, veiled, ifaces, maps, wideKeys, modest, calm, conditions, laid).
  DERIVED. THE GIVEN ROWS OF THIS SEAT. 1 by the template 'for every input the law returns true; each argument reads behind the call as it read before'; 0 by the template 'total and deterministic' (their statements: Qxb6614337aTotals.lean).
  GIVEN WITH THE SEED: the statements are not yours to turn. If you find one false, say at which input.
  Laid BY PROGRAM, IN A SANDBOX (cutbox-rows.mjs): the forced cells as the released guide's own fill.sh prints them over the translation 9742d5a108433a4e… (all of the seat's roots in one cut). By AI agents, Wed Nov 11 2026. No macro, syntax, notation, axiom, sorry.
-/
import Derived.Test.Qxb6614337aChecked
import GoSem.Claim
import GoSem.ClaimJoined
import GoSem.ClaimMapViews
import Derived.JoinedTies
import Derived.KernelRfl
namespace Go.Proofs.Qxb6614337a
/- THE CELL 'sum', in the pinned program and in every row, IS THE sha256 OF THE DUMP (.gsa) THAT Qxb6614337aProg.lean LOADS. Nothing in Lean hashes anything: it is a label: what it is worth is what the hold of that sum in a sandbox is worth. -/
noncomputable def Try.pinned : Pinned := { name := "qxb6614337a", sum := "9742d5a108433a4ea83594ea6b34cd4f7a4df8501937a49c114983984b8d9618", checked := Try.checked }
namespace Rows
def none {H : Type} : Left H := { results := [], args := [] }

/-- 'zzlaws_root_b1.FnCommitHoldsCountsHeld': WHATEVER THE INPUT: true; the input reads as it did. -/
def fnCommitHoldsCountsHeldSpec : ChangeSpec := { name := "fnCommitHoldsCountsHeld", fn := fun _ => fun
  | [d1, d2] => { results := [.lit (.bool true)], args := [d1, d2] }
  | _ => none }
def fnCommitHoldsCountsHeldRow : OpenClaim := { program := "qxb6614337a", sum := "9742d5a108433a4ea83594ea6b34cd4f7a4df8501937a49c114983984b8d9618", func := "example.com/redoubt/redoubt/zzlaws_root_b1.FnCommitHoldsCountsHeld", spec := "fnCommitHoldsCountsHeld", apart := false }
def FnCommitHoldsCountsHeldSaid : Prop := fnCommitHoldsCountsHeldRow.holds Try.pinned (OpenSpec.ofChange fnCommitHoldsCountsHeldSpec)

/-- ITS FALSE NEIGHBOUR: 'it returns false'. Refute it at one input. -/
def fnCommitHoldsCountsHeldWrong : ChangeSpec := { name := "fnCommitHoldsCountsHeld", fn := fun _ => fun
  | [d1, d2] => { results := [.lit (.bool false)], args := [d1, d2] }
  | _ => none }
def FnCommitHoldsCountsHeldWrongFalsely : Prop := fnCommitHoldsCountsHeldRow.holds Try.pinned (OpenSpec.ofChange fnCommitHoldsCountsHeldWrong)

end Rows
end Go.Proofs.Qxb6614337a
