/-
  No cell of these rows narrows 'for every input' (looked for: loops, veiled, ifaces, maps, wideKeys, modest, calm, conditions, laid).
  DERIVED. THE GIVEN ROWS OF THIS SEAT. 3 by the template 'for every input the law returns true; each argument reads behind the call as it read before'; 0 by the template 'total and deterministic' (their statements: Qxb6604766aTotals.lean).
  GIVEN WITH THE SEED: the statements are not yours to turn. If you find one false, say at which input.
  Laid BY PROGRAM, IN A SANDBOX (cutbox-rows.mjs): the forced cells as the released guide's own fill.sh prints them over the translation 81078b3937abb5d9… (all of the seat's roots in one cut). By AI agents, Wed Nov 11 2026. No macro, syntax, notation, axiom, sorry.
-/
import Derived.Test.Qxb6604766aChecked
import GoSem.Claim
import GoSem.ClaimJoined
import GoSem.ClaimMapViews
import Derived.JoinedTies
import Derived.KernelRfl
namespace Go.Proofs.Qxb6604766a
/- THE CELL 'sum', in the pinned program and in every row, IS THE sha256 OF THE DUMP (.gsa) THAT Qxb6604766aProg.lean LOADS. Nothing in Lean hashes anything: it is a label: what it is worth is what the hold of that sum in a sandbox is worth. -/
noncomputable def Try.pinned : Pinned := { name := "qxb6604766a", sum := "81078b3937abb5d90509a08dfea1b86864c3e912a87882e70f83f9e5b03153cf", checked := Try.checked }
namespace Rows
def none {H : Type} : Left H := { results := [], args := [] }

/-- 'zzlaws_internal_report_b1.FnNewExact': WHATEVER THE INPUT: true; the input reads as it did. -/
def fnNewExactSpec : ChangeSpec := { name := "fnNewExact", fn := fun _ => fun
  | [d1, d2, d3, d4, d5, d6, d7] => { results := [.lit (.bool true)], args := [d1, d2, d3, d4, d5, d6, d7] }
  | _ => none }
def fnNewExactRow : OpenClaim := { program := "qxb6604766a", sum := "81078b3937abb5d90509a08dfea1b86864c3e912a87882e70f83f9e5b03153cf", func := "example.com/rules-for-go-services/rules-for-go-services/zzlaws_internal_report_b1.FnNewExact", spec := "fnNewExact", inPlace := ["internal/bytealg.IndexByteString", "internal/bytealg.CountString"], apart := false }
def FnNewExactSaid : Prop := fnNewExactRow.holds Try.pinned (OpenSpec.ofChange fnNewExactSpec)

/-- ITS FALSE NEIGHBOUR: 'it returns false'. Refute it at one input. -/
def fnNewExactWrong : ChangeSpec := { name := "fnNewExact", fn := fun _ => fun
  | [d1, d2, d3, d4, d5, d6, d7] => { results := [.lit (.bool false)], args := [d1, d2, d3, d4, d5, d6, d7] }
  | _ => none }
def FnNewExactWrongFalsely : Prop := fnNewExactRow.holds Try.pinned (OpenSpec.ofChange fnNewExactWrong)

/-- 'zzlaws_internal_report_b1.FnTextSplitsBack': WHATEVER THE INPUT: true; the input reads as it did. -/
def fnTextSplitsBackSpec : ChangeSpec := { name := "fnTextSplitsBack", fn := fun _ => fun
  | [d1, d2] => { results := [.lit (.bool true)], args := [d1, d2] }
  | _ => none }
def fnTextSplitsBackRow : OpenClaim := { program := "qxb6604766a", sum := "81078b3937abb5d90509a08dfea1b86864c3e912a87882e70f83f9e5b03153cf", func := "example.com/rules-for-go-services/rules-for-go-services/zzlaws_internal_report_b1.FnTextSplitsBack", spec := "fnTextSplitsBack", apart := false }
def FnTextSplitsBackSaid : Prop := fnTextSplitsBackRow.holds Try.pinned (OpenSpec.ofChange fnTextSplitsBackSpec)

/-- ITS FALSE NEIGHBOUR: 'it returns false'. Refute it at one input. -/
def fnTextSplitsBackWrong : ChangeSpec := { name := "fnTextSplitsBack", fn := fun _ => fun
  | [d1, d2] => { results := [.lit (.bool false)], args := [d1, d2] }
  | _ => none }
def FnTextSplitsBackWrongFalsely : Prop := fnTextSplitsBackRow.holds Try.pinned (OpenSpec.ofChange fnTextSplitsBackWrong)

/-- 'zzlaws_internal_report_b1.FnCompareAntisymmetricAndExact': WHATEVER THE INPUT: true; the input reads as it did. -/
def fnCompareAntisymmetricAndExactSpec : ChangeSpec := { name := "fnCompareAntisymmetricAndExact", fn := fun _ => fun
  | [d1, d2, d3, d4, d5, d6, d7, d8, d9, d10] => { results := [.lit (.bool true)], args := [d1, d2, d3, d4, d5, d6, d7, d8, d9, d10] }
  | _ => none }
def fnCompareAntisymmetricAndExactRow : OpenClaim := { program := "qxb6604766a", sum := "81078b3937abb5d90509a08dfea1b86864c3e912a87882e70f83f9e5b03153cf", func := "example.com/rules-for-go-services/rules-for-go-services/zzlaws_internal_report_b1.FnCompareAntisymmetricAndExact", spec := "fnCompareAntisymmetricAndExact", apart := false }
def FnCompareAntisymmetricAndExactSaid : Prop := fnCompareAntisymmetricAndExactRow.holds Try.pinned (OpenSpec.ofChange fnCompareAntisymmetricAndExactSpec)

/-- ITS FALSE NEIGHBOUR: 'it returns false'. Refute it at one input. -/
def fnCompareAntisymmetricAndExactWrong : ChangeSpec := { name := "fnCompareAntisymmetricAndExact", fn := fun _ => fun
  | [d1, d2, d3, d4, d5, d6, d7, d8, d9, d10] => { results := [.lit (.bool false)], args := [d1, d2, d3, d4, d5, d6, d7, d8, d9, d10] }
  | _ => none }
def FnCompareAntisymmetricAndExactWrongFalsely : Prop := fnCompareAntisymmetricAndExactRow.holds Try.pinned (OpenSpec.ofChange fnCompareAntisymmetricAndExactWrong)

end Rows
end Go.Proofs.Qxb6604766a
