/-
  No cell of these rows narrows 'for every input' (looked for: loops, veiled, ifaces, maps, wideKeys, modest, calm, conditions, laid).
  DERIVED. THE GIVEN ROWS OF THIS SEAT. 2 by the template 'for every input the law returns true; each argument reads behind the call as it read before'; 0 by the template 'total and deterministic' (their statements: Qxb6604766aFmtTotals.lean).
  GIVEN WITH THE SEED: the statements are not yours to turn. If you find one false, say at which input.
  Laid BY PROGRAM, IN A SANDBOX (cutbox-rows.mjs): the forced cells as the released guide's own fill.sh prints them over the translation 38bfaad22097ab0d… (all of the seat's roots in one cut). By AI agents, Wed Nov 11 2026. No macro, syntax, notation, axiom, sorry.
-/
import Derived.Test.Qxb6604766aFmtChecked
import GoSem.Claim
import GoSem.ClaimJoined
import GoSem.ClaimMapViews
import Derived.JoinedTies
import Derived.KernelRfl
namespace Go.Proofs.Qxb6604766aFmt
/- THE CELL 'sum', in the pinned program and in every row, IS THE sha256 OF THE DUMP (.gsa) THAT Qxb6604766aFmtProg.lean LOADS. Nothing in Lean hashes anything: it is a label: what it is worth is what the hold of that sum in a sandbox is worth. -/
noncomputable def Tryf.pinned : Pinned := { name := "qxb6604766afmt", sum := "38bfaad22097ab0d7aca76ff023655730e09866cd16d05e13d20b1a5416ecf15", checked := Tryf.checked }
namespace Rows
def none {H : Type} : Left H := { results := [], args := [] }

/-- 'zzlaws_internal_report_b1.FnNewPrintedRelative': WHATEVER THE INPUT: true; the input reads as it did. -/
def fnNewPrintedRelativeSpec : ChangeSpec := { name := "fnNewPrintedRelative", fn := fun _ => fun
  | [d1, d2, d3, d4, d5, d6, d7] => { results := [.lit (.bool true)], args := [d1, d2, d3, d4, d5, d6, d7] }
  | _ => none }
def fnNewPrintedRelativeRow : OpenClaim := { program := "qxb6604766afmt", sum := "38bfaad22097ab0d7aca76ff023655730e09866cd16d05e13d20b1a5416ecf15", func := "example.com/rules-for-go-services/rules-for-go-services/zzlaws_internal_report_b1.FnNewPrintedRelative", spec := "fnNewPrintedRelative", stops := ["fmt.Sprintf"], inPlace := ["internal/bytealg.IndexByteString", "internal/bytealg.CountString", "fmt.Sprintf"], apart := false }
/-- NO THEOREM (fmt's text is open here; it may be false): for the released tool's asking of the row's closed facts alone. THE STATEMENT IS 'FnNewPrintedRelativeToldSaid' (Qxb6604766aFmtCards.lean). -/
def FnNewPrintedRelativeFormAsk : Prop := fnNewPrintedRelativeRow.holds Tryf.pinned (OpenSpec.ofChange fnNewPrintedRelativeSpec)

/-- ITS FALSE NEIGHBOUR: 'it returns false'. Refute it at one input. -/
def fnNewPrintedRelativeWrong : ChangeSpec := { name := "fnNewPrintedRelative", fn := fun _ => fun
  | [d1, d2, d3, d4, d5, d6, d7] => { results := [.lit (.bool false)], args := [d1, d2, d3, d4, d5, d6, d7] }
  | _ => none }
def FnNewPrintedRelativeWrongFormAsk : Prop := fnNewPrintedRelativeRow.holds Tryf.pinned (OpenSpec.ofChange fnNewPrintedRelativeWrong)

/-- 'zzlaws_internal_report_b1.FnStringParsesBack': WHATEVER THE INPUT: true; the input reads as it did. -/
def fnStringParsesBackSpec : ChangeSpec := { name := "fnStringParsesBack", fn := fun _ => fun
  | [d1, d2, d3, d4, d5] => { results := [.lit (.bool true)], args := [d1, d2, d3, d4, d5] }
  | _ => none }
def fnStringParsesBackRow : OpenClaim := { program := "qxb6604766afmt", sum := "38bfaad22097ab0d7aca76ff023655730e09866cd16d05e13d20b1a5416ecf15", func := "example.com/rules-for-go-services/rules-for-go-services/zzlaws_internal_report_b1.FnStringParsesBack", spec := "fnStringParsesBack", stops := ["fmt.Sprintf"], inPlace := ["fmt.Sprintf"], apart := false }
/-- NO THEOREM (fmt's text is open here; it may be false): for the released tool's asking of the row's closed facts alone. THE STATEMENT IS 'FnStringParsesBackToldSaid' (Qxb6604766aFmtCards.lean). -/
def FnStringParsesBackFormAsk : Prop := fnStringParsesBackRow.holds Tryf.pinned (OpenSpec.ofChange fnStringParsesBackSpec)

/-- ITS FALSE NEIGHBOUR: 'it returns false'. Refute it at one input. -/
def fnStringParsesBackWrong : ChangeSpec := { name := "fnStringParsesBack", fn := fun _ => fun
  | [d1, d2, d3, d4, d5] => { results := [.lit (.bool false)], args := [d1, d2, d3, d4, d5] }
  | _ => none }
def FnStringParsesBackWrongFormAsk : Prop := fnStringParsesBackRow.holds Tryf.pinned (OpenSpec.ofChange fnStringParsesBackWrong)

end Rows
end Go.Proofs.Qxb6604766aFmt
