/-
  DERIVED. GIVEN WITH THE SEED: THE CARDS: each row of Qxb6604766aFmtRows.lean that lists a variable, with what it lists TIED to the program's text (the seventh form; the later family's looks); each row that meets fmt, with fmt's text TOLD by the authors' own Lean function (tested against real Go, not proved from fmt's source: count such statements apart). THE CARD IS WHAT COUNTS. Prove the row's statement (the work); the ties are given (Qxb6604766aFmtTie.lean); close each card by the builder's one call (the guide's Derived/Test/ToyasCard.lean, 'card_holds'). Laid BY PROGRAM, IN A SANDBOX (cutbox-door.mjs). By AI agents, Wed Nov 11 2026. No macro, syntax, notation, axiom, sorry.
-/
import Derived.Test.Qxb6604766aFmtRows
import GoSem.ClaimSeven
namespace Go.Proofs.Qxb6604766aFmt
namespace Rows

/-- THE TOLD CARD OF 'zzlaws_internal_report_b1.FnNewPrintedRelative'. -/
def fnNewPrintedRelativeCard : Claim7 := { stood := { row := fnNewPrintedRelativeRow, standIns := [], harness := (true, "7f0158d277e1309d6f9bd62fed3da00d70354d266f8d97ed83f64a500ee75637"), looks := false }, told := true, goes := false }
def FnNewPrintedRelativeToldSaid : Prop := Claim7.holds Tryf.pinned (.plain (OpenSpec.ofChange fnNewPrintedRelativeSpec)) fnNewPrintedRelativeCard
/-- ITS FALSE NEIGHBOUR. Refute it at one input. -/
def FnNewPrintedRelativeToldWrongFalsely : Prop := Claim7.holds Tryf.pinned (.plain (OpenSpec.ofChange fnNewPrintedRelativeWrong)) fnNewPrintedRelativeCard

/-- THE TOLD CARD OF 'zzlaws_internal_report_b1.FnStringParsesBack'. -/
def fnStringParsesBackCard : Claim7 := { stood := { row := fnStringParsesBackRow, standIns := [], harness := (true, "7f0158d277e1309d6f9bd62fed3da00d70354d266f8d97ed83f64a500ee75637"), looks := false }, told := true, goes := false }
def FnStringParsesBackToldSaid : Prop := Claim7.holds Tryf.pinned (.plain (OpenSpec.ofChange fnStringParsesBackSpec)) fnStringParsesBackCard
/-- ITS FALSE NEIGHBOUR. Refute it at one input. -/
def FnStringParsesBackToldWrongFalsely : Prop := Claim7.holds Tryf.pinned (.plain (OpenSpec.ofChange fnStringParsesBackWrong)) fnStringParsesBackCard
end Rows
end Go.Proofs.Qxb6604766aFmt
