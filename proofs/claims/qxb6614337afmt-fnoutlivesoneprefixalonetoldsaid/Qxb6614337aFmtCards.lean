/-
  DERIVED. GIVEN WITH THE SEED: THE CARDS: each row of Qxb6614337aFmtRows.lean that lists a variable, with what it lists TIED to the program's text (the seventh form; the later family's looks); each row that meets fmt, with fmt's text TOLD by the authors' own Lean function (tested against real Go, not proved from fmt's source: count such statements apart). THE CARD IS WHAT COUNTS. Prove the row's statement (the work); the ties are given (Qxb6614337aFmtTie.lean); close each card by the builder's one call (the guide's Derived/Test/ToyasCard.lean, 'card_holds'). Laid BY PROGRAM, IN A SANDBOX (cutbox-door.mjs). By AI agents, Wed Nov 11 2026. No macro, syntax, notation, axiom, sorry.
-/
import Derived.Test.Qxb6614337aFmtRows
import GoSem.ClaimSeven
namespace Go.Proofs.Qxb6614337aFmt
namespace Rows

/-- THE TOLD CARD OF 'zzlaws_root_b1.FnOutlivesByWireForm'. -/
def fnOutlivesByWireFormCard : Claim7 := { stood := { row := fnOutlivesByWireFormRow, standIns := [], harness := (true, "b5e1e66924c533da1b904ddba73d6692fc6b37d3ce925a2380aa2e85f4bbb5e4"), looks := false }, told := true, goes := false }
def FnOutlivesByWireFormToldSaid : Prop := Claim7.holds Tryf.pinned (.plain (OpenSpec.ofChange fnOutlivesByWireFormSpec)) fnOutlivesByWireFormCard
/-- ITS FALSE NEIGHBOUR. Refute it at one input. -/
def FnOutlivesByWireFormToldWrongFalsely : Prop := Claim7.holds Tryf.pinned (.plain (OpenSpec.ofChange fnOutlivesByWireFormWrong)) fnOutlivesByWireFormCard

/-- THE TOLD CARD OF 'zzlaws_root_b1.FnOutlivesOnePrefixAlone'. -/
def fnOutlivesOnePrefixAloneCard : Claim7 := { stood := { row := fnOutlivesOnePrefixAloneRow, standIns := [], harness := (true, "b5e1e66924c533da1b904ddba73d6692fc6b37d3ce925a2380aa2e85f4bbb5e4"), looks := false }, told := true, goes := false }
def FnOutlivesOnePrefixAloneToldSaid : Prop := Claim7.holds Tryf.pinned (.plain (OpenSpec.ofChange fnOutlivesOnePrefixAloneSpec)) fnOutlivesOnePrefixAloneCard
/-- ITS FALSE NEIGHBOUR. Refute it at one input. -/
def FnOutlivesOnePrefixAloneToldWrongFalsely : Prop := Claim7.holds Tryf.pinned (.plain (OpenSpec.ofChange fnOutlivesOnePrefixAloneWrong)) fnOutlivesOnePrefixAloneCard
end Rows
end Go.Proofs.Qxb6614337aFmt
