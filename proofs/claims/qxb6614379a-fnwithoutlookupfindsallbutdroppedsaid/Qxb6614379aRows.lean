/-
  No cell of these rows narrows 'for every input' (looked for: loops, veiled, ifaces, maps, wideKeys, modest, calm, conditions, laid).
  DERIVED. THE GIVEN ROWS OF THIS SEAT. 6 by the template 'for every input the law returns true; each argument reads behind the call as it read before'; 0 by the template 'total and deterministic' (their statements: Qxb6614379aTotals.lean).
  GIVEN WITH THE SEED: the statements are not yours to turn. If you find one false, say at which input.
  Laid BY PROGRAM, IN A SANDBOX (cutbox-rows.mjs): the forced cells as the released guide's own fill.sh prints them over the translation 8d391f526e435adf… (all of the seat's roots in one cut). By AI agents, Wed Nov 11 2026. No macro, syntax, notation, axiom, sorry.
-/
import Derived.Test.Qxb6614379aChecked
import GoSem.Claim
import GoSem.ClaimJoined
import GoSem.ClaimMapViews
import Derived.JoinedTies
import Derived.KernelRfl
namespace Go.Proofs.Qxb6614379a
/- THE CELL 'sum', in the pinned program and in every row, IS THE sha256 OF THE DUMP (.gsa) THAT Qxb6614379aProg.lean LOADS. Nothing in Lean hashes anything: it is a label: what it is worth is what the hold of that sum in a sandbox is worth. -/
noncomputable def Try.pinned : Pinned := { name := "qxb6614379a", sum := "8d391f526e435adff9244d2aefab1d7afa820df7b8bb97961429393d9e298b9d", checked := Try.checked }
namespace Rows
def none {H : Type} : Left H := { results := [], args := [] }

/-- 'zzlaws_root_b1.FnResolverStacksFollowPushes': WHATEVER THE INPUT: true; the input reads as it did. -/
def fnResolverStacksFollowPushesSpec : ChangeSpec := { name := "fnResolverStacksFollowPushes", fn := fun _ => fun
  | [d1, d2] => { results := [.lit (.bool true)], args := [d1, d2] }
  | _ => none }
def fnResolverStacksFollowPushesRow : OpenClaim := { program := "qxb6614379a", sum := "8d391f526e435adff9244d2aefab1d7afa820df7b8bb97961429393d9e298b9d", func := "example.com/ugoda/ugoda/zzlaws_root_b1.FnResolverStacksFollowPushes", spec := "fnResolverStacksFollowPushes", apart := false }
def FnResolverStacksFollowPushesSaid : Prop := fnResolverStacksFollowPushesRow.holds Try.pinned (OpenSpec.ofChange fnResolverStacksFollowPushesSpec)

/-- ITS FALSE NEIGHBOUR: 'it returns false'. Refute it at one input. -/
def fnResolverStacksFollowPushesWrong : ChangeSpec := { name := "fnResolverStacksFollowPushes", fn := fun _ => fun
  | [d1, d2] => { results := [.lit (.bool false)], args := [d1, d2] }
  | _ => none }
def FnResolverStacksFollowPushesWrongFalsely : Prop := fnResolverStacksFollowPushesRow.holds Try.pinned (OpenSpec.ofChange fnResolverStacksFollowPushesWrong)

/-- 'zzlaws_root_b1.FnResolverPushKeepsNamespaceAndResolversApart': WHATEVER THE INPUT: true; the input reads as it did. -/
def fnResolverPushKeepsNamespaceAndResolversApartSpec : ChangeSpec := { name := "fnResolverPushKeepsNamespaceAndResolversApart", fn := fun _ => fun
  | [d1, d2] => { results := [.lit (.bool true)], args := [d1, d2] }
  | _ => none }
def fnResolverPushKeepsNamespaceAndResolversApartRow : OpenClaim := { program := "qxb6614379a", sum := "8d391f526e435adff9244d2aefab1d7afa820df7b8bb97961429393d9e298b9d", func := "example.com/ugoda/ugoda/zzlaws_root_b1.FnResolverPushKeepsNamespaceAndResolversApart", spec := "fnResolverPushKeepsNamespaceAndResolversApart", apart := false }
def FnResolverPushKeepsNamespaceAndResolversApartSaid : Prop := fnResolverPushKeepsNamespaceAndResolversApartRow.holds Try.pinned (OpenSpec.ofChange fnResolverPushKeepsNamespaceAndResolversApartSpec)

/-- ITS FALSE NEIGHBOUR: 'it returns false'. Refute it at one input. -/
def fnResolverPushKeepsNamespaceAndResolversApartWrong : ChangeSpec := { name := "fnResolverPushKeepsNamespaceAndResolversApart", fn := fun _ => fun
  | [d1, d2] => { results := [.lit (.bool false)], args := [d1, d2] }
  | _ => none }
def FnResolverPushKeepsNamespaceAndResolversApartWrongFalsely : Prop := fnResolverPushKeepsNamespaceAndResolversApartRow.holds Try.pinned (OpenSpec.ofChange fnResolverPushKeepsNamespaceAndResolversApartWrong)

/-- 'zzlaws_root_b1.FnAssertionNameRebuildsWrittenName': WHATEVER THE INPUT: true; the input reads as it did. -/
def fnAssertionNameRebuildsWrittenNameSpec : ChangeSpec := { name := "fnAssertionNameRebuildsWrittenName", fn := fun _ => fun
  | [d1, d2, d3] => { results := [.lit (.bool true)], args := [d1, d2, d3] }
  | _ => none }
def fnAssertionNameRebuildsWrittenNameRow : OpenClaim := { program := "qxb6614379a", sum := "8d391f526e435adff9244d2aefab1d7afa820df7b8bb97961429393d9e298b9d", func := "example.com/ugoda/ugoda/zzlaws_root_b1.FnAssertionNameRebuildsWrittenName", spec := "fnAssertionNameRebuildsWrittenName", apart := false }
def FnAssertionNameRebuildsWrittenNameSaid : Prop := fnAssertionNameRebuildsWrittenNameRow.holds Try.pinned (OpenSpec.ofChange fnAssertionNameRebuildsWrittenNameSpec)

/-- ITS FALSE NEIGHBOUR: 'it returns false'. Refute it at one input. -/
def fnAssertionNameRebuildsWrittenNameWrong : ChangeSpec := { name := "fnAssertionNameRebuildsWrittenName", fn := fun _ => fun
  | [d1, d2, d3] => { results := [.lit (.bool false)], args := [d1, d2, d3] }
  | _ => none }
def FnAssertionNameRebuildsWrittenNameWrongFalsely : Prop := fnAssertionNameRebuildsWrittenNameRow.holds Try.pinned (OpenSpec.ofChange fnAssertionNameRebuildsWrittenNameWrong)

/-- 'zzlaws_root_b1.FnAssertionNamesEqualByURIAndLocal': WHATEVER THE INPUT: true; the input reads as it did. -/
def fnAssertionNamesEqualByURIAndLocalSpec : ChangeSpec := { name := "fnAssertionNamesEqualByURIAndLocal", fn := fun _ => fun
  | [d1, d2, d3, d4, d5, d6] => { results := [.lit (.bool true)], args := [d1, d2, d3, d4, d5, d6] }
  | _ => none }
def fnAssertionNamesEqualByURIAndLocalRow : OpenClaim := { program := "qxb6614379a", sum := "8d391f526e435adff9244d2aefab1d7afa820df7b8bb97961429393d9e298b9d", func := "example.com/ugoda/ugoda/zzlaws_root_b1.FnAssertionNamesEqualByURIAndLocal", spec := "fnAssertionNamesEqualByURIAndLocal", apart := false }
def FnAssertionNamesEqualByURIAndLocalSaid : Prop := fnAssertionNamesEqualByURIAndLocalRow.holds Try.pinned (OpenSpec.ofChange fnAssertionNamesEqualByURIAndLocalSpec)

/-- ITS FALSE NEIGHBOUR: 'it returns false'. Refute it at one input. -/
def fnAssertionNamesEqualByURIAndLocalWrong : ChangeSpec := { name := "fnAssertionNamesEqualByURIAndLocal", fn := fun _ => fun
  | [d1, d2, d3, d4, d5, d6] => { results := [.lit (.bool false)], args := [d1, d2, d3, d4, d5, d6] }
  | _ => none }
def FnAssertionNamesEqualByURIAndLocalWrongFalsely : Prop := fnAssertionNamesEqualByURIAndLocalRow.holds Try.pinned (OpenSpec.ofChange fnAssertionNamesEqualByURIAndLocalWrong)

/-- 'zzlaws_root_b1.FnWithoutTwiceDropsBothInEitherOrder': WHATEVER THE INPUT: true; the input reads as it did. -/
def fnWithoutTwiceDropsBothInEitherOrderSpec : ChangeSpec := { name := "fnWithoutTwiceDropsBothInEitherOrder", fn := fun _ => fun
  | [d1, d2, d3, d4, d5, d6] => { results := [.lit (.bool true)], args := [d1, d2, d3, d4, d5, d6] }
  | _ => none }
def fnWithoutTwiceDropsBothInEitherOrderRow : OpenClaim := { program := "qxb6614379a", sum := "8d391f526e435adff9244d2aefab1d7afa820df7b8bb97961429393d9e298b9d", func := "example.com/ugoda/ugoda/zzlaws_root_b1.FnWithoutTwiceDropsBothInEitherOrder", spec := "fnWithoutTwiceDropsBothInEitherOrder", apart := false }
def FnWithoutTwiceDropsBothInEitherOrderSaid : Prop := fnWithoutTwiceDropsBothInEitherOrderRow.holds Try.pinned (OpenSpec.ofChange fnWithoutTwiceDropsBothInEitherOrderSpec)

/-- ITS FALSE NEIGHBOUR: 'it returns false'. Refute it at one input. -/
def fnWithoutTwiceDropsBothInEitherOrderWrong : ChangeSpec := { name := "fnWithoutTwiceDropsBothInEitherOrder", fn := fun _ => fun
  | [d1, d2, d3, d4, d5, d6] => { results := [.lit (.bool false)], args := [d1, d2, d3, d4, d5, d6] }
  | _ => none }
def FnWithoutTwiceDropsBothInEitherOrderWrongFalsely : Prop := fnWithoutTwiceDropsBothInEitherOrderRow.holds Try.pinned (OpenSpec.ofChange fnWithoutTwiceDropsBothInEitherOrderWrong)

/-- 'zzlaws_root_b1.FnWithoutLookupFindsAllButDropped': WHATEVER THE INPUT: true; the input reads as it did. -/
def fnWithoutLookupFindsAllButDroppedSpec : ChangeSpec := { name := "fnWithoutLookupFindsAllButDropped", fn := fun _ => fun
  | [d1, d2, d3, d4, d5] => { results := [.lit (.bool true)], args := [d1, d2, d3, d4, d5] }
  | _ => none }
def fnWithoutLookupFindsAllButDroppedRow : OpenClaim := { program := "qxb6614379a", sum := "8d391f526e435adff9244d2aefab1d7afa820df7b8bb97961429393d9e298b9d", func := "example.com/ugoda/ugoda/zzlaws_root_b1.FnWithoutLookupFindsAllButDropped", spec := "fnWithoutLookupFindsAllButDropped", apart := false }
def FnWithoutLookupFindsAllButDroppedSaid : Prop := fnWithoutLookupFindsAllButDroppedRow.holds Try.pinned (OpenSpec.ofChange fnWithoutLookupFindsAllButDroppedSpec)

/-- ITS FALSE NEIGHBOUR: 'it returns false'. Refute it at one input. -/
def fnWithoutLookupFindsAllButDroppedWrong : ChangeSpec := { name := "fnWithoutLookupFindsAllButDropped", fn := fun _ => fun
  | [d1, d2, d3, d4, d5] => { results := [.lit (.bool false)], args := [d1, d2, d3, d4, d5] }
  | _ => none }
def FnWithoutLookupFindsAllButDroppedWrongFalsely : Prop := fnWithoutLookupFindsAllButDroppedRow.holds Try.pinned (OpenSpec.ofChange fnWithoutLookupFindsAllButDroppedWrong)

end Rows
end Go.Proofs.Qxb6614379a
