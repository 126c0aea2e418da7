/-
  No cell of these rows narrows 'for every input' (looked for: loops, veiled, ifaces, maps, wideKeys, modest, calm, conditions, laid).
  DERIVED. THE GIVEN ROWS OF THIS SEAT. 2 by the template 'for every input the law returns true; each argument reads behind the call as it read before'; 0 by the template 'total and deterministic' (their statements: Qxb6628338aTotals.lean).
  GIVEN WITH THE SEED: the statements are not yours to turn. If you find one false, say at which input.
  Laid BY PROGRAM, IN A SANDBOX (cutbox-rows.mjs): the forced cells as the released guide's own fill.sh prints them over the translation 720dcff6a7db2cfa… (all of the seat's roots in one cut). By AI agents, Wed Nov 11 2026. No macro, syntax, notation, axiom, sorry.
-/
import Derived.Test.Qxb6628338aChecked
import GoSem.Claim
import GoSem.ClaimJoined
import GoSem.ClaimMapViews
import Derived.JoinedTies
import Derived.KernelRfl
namespace Go.Proofs.Qxb6628338a
/- THE CELL 'sum', in the pinned program and in every row, IS THE sha256 OF THE DUMP (.gsa) THAT Qxb6628338aProg.lean LOADS. Nothing in Lean hashes anything: it is a label: what it is worth is what the hold of that sum in a sandbox is worth. -/
noncomputable def Try.pinned : Pinned := { name := "qxb6628338a", sum := "720dcff6a7db2cfaab651f26d4cac953fefc2e44c4ac48a0eebe22ca6f615687", checked := Try.checked }
namespace Rows
def none {H : Type} : Left H := { results := [], args := [] }

/-- 'zzlaws_pkg_plain_b1.FnDigitsReadsExactlyItsDecimalText': WHATEVER THE INPUT: true; the input reads as it did. -/
def fnDigitsReadsExactlyItsDecimalTextSpec : ChangeSpec := { name := "fnDigitsReadsExactlyItsDecimalText", fn := fun _ => fun
  | [d] => { results := [.lit (.bool true)], args := [d] }
  | _ => none }
def fnDigitsReadsExactlyItsDecimalTextRow : OpenClaim := { program := "qxb6628338a", sum := "720dcff6a7db2cfaab651f26d4cac953fefc2e44c4ac48a0eebe22ca6f615687", func := "example.com/tuoguan/tuoguan/zzlaws_pkg_plain_b1.FnDigitsReadsExactlyItsDecimalText", spec := "fnDigitsReadsExactlyItsDecimalText", apart := false }
def FnDigitsReadsExactlyItsDecimalTextSaid : Prop := fnDigitsReadsExactlyItsDecimalTextRow.holds Try.pinned (OpenSpec.ofChange fnDigitsReadsExactlyItsDecimalTextSpec)

/-- ITS FALSE NEIGHBOUR: 'it returns false'. Refute it at one input. -/
def fnDigitsReadsExactlyItsDecimalTextWrong : ChangeSpec := { name := "fnDigitsReadsExactlyItsDecimalText", fn := fun _ => fun
  | [d] => { results := [.lit (.bool false)], args := [d] }
  | _ => none }
def FnDigitsReadsExactlyItsDecimalTextWrongFalsely : Prop := fnDigitsReadsExactlyItsDecimalTextRow.holds Try.pinned (OpenSpec.ofChange fnDigitsReadsExactlyItsDecimalTextWrong)

/-- 'zzlaws_pkg_plain_b1.FnDigitsSplitsAtAnyCut': WHATEVER THE INPUT: true; the input reads as it did. -/
def fnDigitsSplitsAtAnyCutSpec : ChangeSpec := { name := "fnDigitsSplitsAtAnyCut", fn := fun _ => fun
  | [d1, d2] => { results := [.lit (.bool true)], args := [d1, d2] }
  | _ => none }
def fnDigitsSplitsAtAnyCutRow : OpenClaim := { program := "qxb6628338a", sum := "720dcff6a7db2cfaab651f26d4cac953fefc2e44c4ac48a0eebe22ca6f615687", func := "example.com/tuoguan/tuoguan/zzlaws_pkg_plain_b1.FnDigitsSplitsAtAnyCut", spec := "fnDigitsSplitsAtAnyCut", apart := false }
def FnDigitsSplitsAtAnyCutSaid : Prop := fnDigitsSplitsAtAnyCutRow.holds Try.pinned (OpenSpec.ofChange fnDigitsSplitsAtAnyCutSpec)

/-- ITS FALSE NEIGHBOUR: 'it returns false'. Refute it at one input. -/
def fnDigitsSplitsAtAnyCutWrong : ChangeSpec := { name := "fnDigitsSplitsAtAnyCut", fn := fun _ => fun
  | [d1, d2] => { results := [.lit (.bool false)], args := [d1, d2] }
  | _ => none }
def FnDigitsSplitsAtAnyCutWrongFalsely : Prop := fnDigitsSplitsAtAnyCutRow.holds Try.pinned (OpenSpec.ofChange fnDigitsSplitsAtAnyCutWrong)

end Rows
end Go.Proofs.Qxb6628338a
