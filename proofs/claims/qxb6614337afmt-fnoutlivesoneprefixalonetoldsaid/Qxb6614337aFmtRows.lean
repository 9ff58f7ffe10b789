/-
  No cell of these rows narrows 'for every input' (looked for: loops, veiled, ifaces, maps, wideKeys, modest, calm, conditions, laid).
  DERIVED. THE GIVEN ROWS OF THIS SEAT. 2 by the template 'for every input the law returns true; each argument reads behind the call as it read before'; 0 by the template 'total and deterministic' (their statements: Qxb6614337aFmtTotals.lean).
  GIVEN WITH THE SEED: the statements are not yours to turn. If you find one false, say at which input.
  Laid BY PROGRAM, IN A SANDBOX (cutbox-rows.mjs): the forced cells as the released guide's own fill.sh prints them over the translation d22aa7591bdb3b54… (all of the seat's roots in one cut). By AI agents, Wed Nov 11 2026. No macro, syntax, notation, axiom, sorry.
-/
import Derived.Test.Qxb6614337aFmtChecked
import GoSem.Claim
import GoSem.ClaimJoined
import GoSem.ClaimMapViews
import Derived.JoinedTies
import Derived.KernelRfl
namespace Go.Proofs.Qxb6614337aFmt
/- THE CELL 'sum', in the pinned program and in every row, IS THE sha256 OF THE DUMP (.gsa) THAT Qxb6614337aFmtProg.lean LOADS. Nothing in Lean hashes anything: it is a label: what it is worth is what the hold of that sum in a sandbox is worth. -/
noncomputable def Tryf.pinned : Pinned := { name := "qxb6614337afmt", sum := "d22aa7591bdb3b54025d6458c5d9cfea0d0b0a229518f417ceb0e8693627d5dd", checked := Tryf.checked }
namespace Rows
def none {H : Type} : Left H := { results := [], args := [] }

/-- 'zzlaws_root_b1.FnOutlivesByWireForm': WHATEVER THE INPUT: true; the input reads as it did. -/
def fnOutlivesByWireFormSpec : ChangeSpec := { name := "fnOutlivesByWireForm", fn := fun _ => fun
  | [d1, d2] => { results := [.lit (.bool true)], args := [d1, d2] }
  | _ => none }
def fnOutlivesByWireFormRow : OpenClaim := { program := "qxb6614337afmt", sum := "d22aa7591bdb3b54025d6458c5d9cfea0d0b0a229518f417ceb0e8693627d5dd", func := "example.com/redoubt/redoubt/zzlaws_root_b1.FnOutlivesByWireForm", spec := "fnOutlivesByWireForm", stops := ["fmt.errorf, its operands' methods called", "fmt.Sprintf"], inPlace := ["fmt.errorf"], unfollowed := true, recurses := true, named := ["encoding/binary.BigEndian"], apart := false }
/-- NO THEOREM (fmt's text is open here; it may be false): for the released tool's asking of the row's closed facts alone. THE STATEMENT IS 'FnOutlivesByWireFormToldSaid' (Qxb6614337aFmtCards.lean). -/
def FnOutlivesByWireFormFormAsk : Prop := fnOutlivesByWireFormRow.holds Tryf.pinned (OpenSpec.ofChange fnOutlivesByWireFormSpec)

/-- ITS FALSE NEIGHBOUR: 'it returns false'. Refute it at one input. -/
def fnOutlivesByWireFormWrong : ChangeSpec := { name := "fnOutlivesByWireForm", fn := fun _ => fun
  | [d1, d2] => { results := [.lit (.bool false)], args := [d1, d2] }
  | _ => none }
def FnOutlivesByWireFormWrongFormAsk : Prop := fnOutlivesByWireFormRow.holds Tryf.pinned (OpenSpec.ofChange fnOutlivesByWireFormWrong)

/-- 'zzlaws_root_b1.FnOutlivesOnePrefixAlone': WHATEVER THE INPUT: true; the input reads as it did. -/
def fnOutlivesOnePrefixAloneSpec : ChangeSpec := { name := "fnOutlivesOnePrefixAlone", fn := fun _ => fun
  | [d1, d2] => { results := [.lit (.bool true)], args := [d1, d2] }
  | _ => none }
def fnOutlivesOnePrefixAloneRow : OpenClaim := { program := "qxb6614337afmt", sum := "d22aa7591bdb3b54025d6458c5d9cfea0d0b0a229518f417ceb0e8693627d5dd", func := "example.com/redoubt/redoubt/zzlaws_root_b1.FnOutlivesOnePrefixAlone", spec := "fnOutlivesOnePrefixAlone", stops := ["fmt.errorf, its operands' methods called", "fmt.Sprintf"], inPlace := ["fmt.errorf"], unfollowed := true, recurses := true, named := ["encoding/binary.BigEndian"], apart := false }
/-- NO THEOREM (fmt's text is open here; it may be false): for the released tool's asking of the row's closed facts alone. THE STATEMENT IS 'FnOutlivesOnePrefixAloneToldSaid' (Qxb6614337aFmtCards.lean). -/
def FnOutlivesOnePrefixAloneFormAsk : Prop := fnOutlivesOnePrefixAloneRow.holds Tryf.pinned (OpenSpec.ofChange fnOutlivesOnePrefixAloneSpec)

/-- ITS FALSE NEIGHBOUR: 'it returns false'. Refute it at one input. -/
def fnOutlivesOnePrefixAloneWrong : ChangeSpec := { name := "fnOutlivesOnePrefixAlone", fn := fun _ => fun
  | [d1, d2] => { results := [.lit (.bool false)], args := [d1, d2] }
  | _ => none }
def FnOutlivesOnePrefixAloneWrongFormAsk : Prop := fnOutlivesOnePrefixAloneRow.holds Tryf.pinned (OpenSpec.ofChange fnOutlivesOnePrefixAloneWrong)

end Rows
end Go.Proofs.Qxb6614337aFmt
