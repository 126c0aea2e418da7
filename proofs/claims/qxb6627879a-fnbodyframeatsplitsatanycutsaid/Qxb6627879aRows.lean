/-
  No cell of these rows narrows 'for every input' (looked for: loops, veiled, ifaces, maps, wideKeys, modest, calm, conditions, laid).
  DERIVED. THE GIVEN ROWS OF THIS SEAT. 2 by the template 'for every input the law returns true; each argument reads behind the call as it read before'; 0 by the template 'total and deterministic' (their statements: Qxb6627879aTotals.lean).
  GIVEN WITH THE SEED: the statements are not yours to turn. If you find one false, say at which input.
  Laid BY PROGRAM, IN A SANDBOX (cutbox-rows.mjs): the forced cells as the released guide's own fill.sh prints them over the translation d1033f31a80aebd4… (all of the seat's roots in one cut). By AI agents, Wed Nov 11 2026. No macro, syntax, notation, axiom, sorry.
-/
import Derived.Test.Qxb6627879aChecked
import GoSem.Claim
import GoSem.ClaimJoined
import GoSem.ClaimMapViews
import Derived.JoinedTies
import Derived.KernelRfl
namespace Go.Proofs.Qxb6627879a
/- THE CELL 'sum', in the pinned program and in every row, IS THE sha256 OF THE DUMP (.gsa) THAT Qxb6627879aProg.lean LOADS. Nothing in Lean hashes anything: it is a label: what it is worth is what the hold of that sum in a sandbox is worth. -/
noncomputable def Try.pinned : Pinned := { name := "qxb6627879a", sum := "d1033f31a80aebd4b1934f21fb8718792ed96f70983de8e5aa1542139ba8b7cd", checked := Try.checked }
namespace Rows
def none {H : Type} : Left H := { results := [], args := [] }

/-- 'zzlaws_sbi_b1.FnBodyFrameAtIsFirstRunPastOffset': WHATEVER THE INPUT: true; the input reads as it did. -/
def fnBodyFrameAtIsFirstRunPastOffsetSpec : ChangeSpec := { name := "fnBodyFrameAtIsFirstRunPastOffset", fn := fun _ => fun
  | [d1, d2, d3, d4, d5, d6, d7, d8] => { results := [.lit (.bool true)], args := [d1, d2, d3, d4, d5, d6, d7, d8] }
  | _ => none }
def fnBodyFrameAtIsFirstRunPastOffsetRow : OpenClaim := { program := "qxb6627879a", sum := "d1033f31a80aebd4b1934f21fb8718792ed96f70983de8e5aa1542139ba8b7cd", func := "example.com/coreassay/coreassay/zzlaws_sbi_b1.FnBodyFrameAtIsFirstRunPastOffset", spec := "fnBodyFrameAtIsFirstRunPastOffset", apart := false }
def FnBodyFrameAtIsFirstRunPastOffsetSaid : Prop := fnBodyFrameAtIsFirstRunPastOffsetRow.holds Try.pinned (OpenSpec.ofChange fnBodyFrameAtIsFirstRunPastOffsetSpec)

/-- ITS FALSE NEIGHBOUR: 'it returns false'. Refute it at one input. -/
def fnBodyFrameAtIsFirstRunPastOffsetWrong : ChangeSpec := { name := "fnBodyFrameAtIsFirstRunPastOffset", fn := fun _ => fun
  | [d1, d2, d3, d4, d5, d6, d7, d8] => { results := [.lit (.bool false)], args := [d1, d2, d3, d4, d5, d6, d7, d8] }
  | _ => none }
def FnBodyFrameAtIsFirstRunPastOffsetWrongFalsely : Prop := fnBodyFrameAtIsFirstRunPastOffsetRow.holds Try.pinned (OpenSpec.ofChange fnBodyFrameAtIsFirstRunPastOffsetWrong)

/-- 'zzlaws_sbi_b1.FnBodyFrameAtSplitsAtAnyCut': WHATEVER THE INPUT: true; the input reads as it did. -/
def fnBodyFrameAtSplitsAtAnyCutSpec : ChangeSpec := { name := "fnBodyFrameAtSplitsAtAnyCut", fn := fun _ => fun
  | [d1, d2, d3, d4, d5, d6, d7, d8, d9] => { results := [.lit (.bool true)], args := [d1, d2, d3, d4, d5, d6, d7, d8, d9] }
  | _ => none }
def fnBodyFrameAtSplitsAtAnyCutRow : OpenClaim := { program := "qxb6627879a", sum := "d1033f31a80aebd4b1934f21fb8718792ed96f70983de8e5aa1542139ba8b7cd", func := "example.com/coreassay/coreassay/zzlaws_sbi_b1.FnBodyFrameAtSplitsAtAnyCut", spec := "fnBodyFrameAtSplitsAtAnyCut", apart := false }
def FnBodyFrameAtSplitsAtAnyCutSaid : Prop := fnBodyFrameAtSplitsAtAnyCutRow.holds Try.pinned (OpenSpec.ofChange fnBodyFrameAtSplitsAtAnyCutSpec)

/-- ITS FALSE NEIGHBOUR: 'it returns false'. Refute it at one input. -/
def fnBodyFrameAtSplitsAtAnyCutWrong : ChangeSpec := { name := "fnBodyFrameAtSplitsAtAnyCut", fn := fun _ => fun
  | [d1, d2, d3, d4, d5, d6, d7, d8, d9] => { results := [.lit (.bool false)], args := [d1, d2, d3, d4, d5, d6, d7, d8, d9] }
  | _ => none }
def FnBodyFrameAtSplitsAtAnyCutWrongFalsely : Prop := fnBodyFrameAtSplitsAtAnyCutRow.holds Try.pinned (OpenSpec.ofChange fnBodyFrameAtSplitsAtAnyCutWrong)

end Rows
end Go.Proofs.Qxb6627879a
