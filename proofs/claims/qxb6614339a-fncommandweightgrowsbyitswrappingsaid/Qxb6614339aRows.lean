/-
  No cell of these rows narrows 'for every input' (looked for: loops, veiled, ifaces, maps, wideKeys, modest, calm, conditions, laid).
  DERIVED. THE GIVEN ROWS OF THIS SEAT. 2 by the template 'for every input the law returns true; each argument reads behind the call as it read before'; 0 by the template 'total and deterministic' (their statements: Qxb6614339aTotals.lean).
  GIVEN WITH THE SEED: the statements are not yours to turn. If you find one false, say at which input.
  Laid BY PROGRAM, IN A SANDBOX (cutbox-rows.mjs): the forced cells as the released guide's own fill.sh prints them over the translation 65fa051b328a9ad4… (all of the seat's roots in one cut). By AI agents, Wed Nov 11 2026. No macro, syntax, notation, axiom, sorry.
-/
import Derived.Test.Qxb6614339aChecked
import GoSem.Claim
import GoSem.ClaimJoined
import GoSem.ClaimMapViews
import Derived.JoinedTies
import Derived.KernelRfl
namespace Go.Proofs.Qxb6614339a
/- THE CELL 'sum', in the pinned program and in every row, IS THE sha256 OF THE DUMP (.gsa) THAT Qxb6614339aProg.lean LOADS. Nothing in Lean hashes anything: it is a label: what it is worth is what the hold of that sum in a sandbox is worth. -/
noncomputable def Try.pinned : Pinned := { name := "qxb6614339a", sum := "65fa051b328a9ad47e9d22f47fca16786cda54a3b355a8e84d4333b371cbf01f", checked := Try.checked }
namespace Rows
def none {H : Type} : Left H := { results := [], args := [] }

/-- 'zzlaws_engine_b1.FnCommandWeightOfNestedIncludes': WHATEVER THE INPUT: true; the input reads as it did. -/
def fnCommandWeightOfNestedIncludesSpec : ChangeSpec := { name := "fnCommandWeightOfNestedIncludes", fn := fun _ => fun
  | [d1, d2] => { results := [.lit (.bool true)], args := [d1, d2] }
  | _ => none }
def fnCommandWeightOfNestedIncludesRow : OpenClaim := { program := "qxb6614339a", sum := "65fa051b328a9ad47e9d22f47fca16786cda54a3b355a8e84d4333b371cbf01f", func := "example.com/ratline/ratline/zzlaws_engine_b1.FnCommandWeightOfNestedIncludes", spec := "fnCommandWeightOfNestedIncludes", recurses := true, apart := false }
def FnCommandWeightOfNestedIncludesSaid : Prop := fnCommandWeightOfNestedIncludesRow.holds Try.pinned (OpenSpec.ofChange fnCommandWeightOfNestedIncludesSpec)

/-- ITS FALSE NEIGHBOUR: 'it returns false'. Refute it at one input. -/
def fnCommandWeightOfNestedIncludesWrong : ChangeSpec := { name := "fnCommandWeightOfNestedIncludes", fn := fun _ => fun
  | [d1, d2] => { results := [.lit (.bool false)], args := [d1, d2] }
  | _ => none }
def FnCommandWeightOfNestedIncludesWrongFalsely : Prop := fnCommandWeightOfNestedIncludesRow.holds Try.pinned (OpenSpec.ofChange fnCommandWeightOfNestedIncludesWrong)

/-- 'zzlaws_engine_b1.FnCommandWeightGrowsByItsWrapping': WHATEVER THE INPUT: true; the input reads as it did. -/
def fnCommandWeightGrowsByItsWrappingSpec : ChangeSpec := { name := "fnCommandWeightGrowsByItsWrapping", fn := fun _ => fun
  | [d1, d2, d3] => { results := [.lit (.bool true)], args := [d1, d2, d3] }
  | _ => none }
def fnCommandWeightGrowsByItsWrappingRow : OpenClaim := { program := "qxb6614339a", sum := "65fa051b328a9ad47e9d22f47fca16786cda54a3b355a8e84d4333b371cbf01f", func := "example.com/ratline/ratline/zzlaws_engine_b1.FnCommandWeightGrowsByItsWrapping", spec := "fnCommandWeightGrowsByItsWrapping", recurses := true, apart := false }
def FnCommandWeightGrowsByItsWrappingSaid : Prop := fnCommandWeightGrowsByItsWrappingRow.holds Try.pinned (OpenSpec.ofChange fnCommandWeightGrowsByItsWrappingSpec)

/-- ITS FALSE NEIGHBOUR: 'it returns false'. Refute it at one input. -/
def fnCommandWeightGrowsByItsWrappingWrong : ChangeSpec := { name := "fnCommandWeightGrowsByItsWrapping", fn := fun _ => fun
  | [d1, d2, d3] => { results := [.lit (.bool false)], args := [d1, d2, d3] }
  | _ => none }
def FnCommandWeightGrowsByItsWrappingWrongFalsely : Prop := fnCommandWeightGrowsByItsWrappingRow.holds Try.pinned (OpenSpec.ofChange fnCommandWeightGrowsByItsWrappingWrong)

end Rows
end Go.Proofs.Qxb6614339a
