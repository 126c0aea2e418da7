/-
  No cell of these rows narrows 'for every input' (looked for: loops, veiled, ifaces, maps, wideKeys, modest, calm, conditions, laid).
  DERIVED. THE GIVEN ROWS OF THIS SEAT. 2 by the template 'for every input the law returns true; each argument reads behind the call as it read before'; 0 by the template 'total and deterministic' (their statements: Qxb6628310aTotals.lean).
  GIVEN WITH THE SEED: the statements are not yours to turn. If you find one false, say at which input.
  Laid BY PROGRAM, IN A SANDBOX (cutbox-rows.mjs): the forced cells as the released guide's own fill.sh prints them over the translation 6d89a6f168200109… (all of the seat's roots in one cut). By AI agents, Wed Nov 11 2026. No macro, syntax, notation, axiom, sorry.
-/
import Derived.Test.Qxb6628310aChecked
import GoSem.Claim
import GoSem.ClaimJoined
import GoSem.ClaimMapViews
import Derived.JoinedTies
import Derived.KernelRfl
namespace Go.Proofs.Qxb6628310a
/- THE CELL 'sum', in the pinned program and in every row, IS THE sha256 OF THE DUMP (.gsa) THAT Qxb6628310aProg.lean LOADS. Nothing in Lean hashes anything: it is a label: what it is worth is what the hold of that sum in a sandbox is worth. -/
noncomputable def Try.pinned : Pinned := { name := "qxb6628310a", sum := "6d89a6f168200109503ad220983f6303ca869adcc93817f663f491722304582f", checked := Try.checked }
namespace Rows
def none {H : Type} : Left H := { results := [], args := [] }

/-- 'zzlaws_internal_pack_b1.FnAppendDeltaCopyDecodesToCover': WHATEVER THE INPUT: true; the input reads as it did. -/
def fnAppendDeltaCopyDecodesToCoverSpec : ChangeSpec := { name := "fnAppendDeltaCopyDecodesToCover", fn := fun _ => fun
  | [d1, d2, d3] => { results := [.lit (.bool true)], args := [d1, d2, d3] }
  | _ => none }
def fnAppendDeltaCopyDecodesToCoverRow : OpenClaim := { program := "qxb6628310a", sum := "6d89a6f168200109503ad220983f6303ca869adcc93817f663f491722304582f", func := "example.com/packwire/packwire/zzlaws_internal_pack_b1.FnAppendDeltaCopyDecodesToCover", spec := "fnAppendDeltaCopyDecodesToCover", apart := false }
def FnAppendDeltaCopyDecodesToCoverSaid : Prop := fnAppendDeltaCopyDecodesToCoverRow.holds Try.pinned (OpenSpec.ofChange fnAppendDeltaCopyDecodesToCoverSpec)

/-- ITS FALSE NEIGHBOUR: 'it returns false'. Refute it at one input. -/
def fnAppendDeltaCopyDecodesToCoverWrong : ChangeSpec := { name := "fnAppendDeltaCopyDecodesToCover", fn := fun _ => fun
  | [d1, d2, d3] => { results := [.lit (.bool false)], args := [d1, d2, d3] }
  | _ => none }
def FnAppendDeltaCopyDecodesToCoverWrongFalsely : Prop := fnAppendDeltaCopyDecodesToCoverRow.holds Try.pinned (OpenSpec.ofChange fnAppendDeltaCopyDecodesToCoverWrong)

/-- 'zzlaws_internal_pack_b1.FnAppendDeltaCopySplitsAtWholeCopies': WHATEVER THE INPUT: true; the input reads as it did. -/
def fnAppendDeltaCopySplitsAtWholeCopiesSpec : ChangeSpec := { name := "fnAppendDeltaCopySplitsAtWholeCopies", fn := fun _ => fun
  | [d1, d2, d3, d4] => { results := [.lit (.bool true)], args := [d1, d2, d3, d4] }
  | _ => none }
def fnAppendDeltaCopySplitsAtWholeCopiesRow : OpenClaim := { program := "qxb6628310a", sum := "6d89a6f168200109503ad220983f6303ca869adcc93817f663f491722304582f", func := "example.com/packwire/packwire/zzlaws_internal_pack_b1.FnAppendDeltaCopySplitsAtWholeCopies", spec := "fnAppendDeltaCopySplitsAtWholeCopies", apart := false }
def FnAppendDeltaCopySplitsAtWholeCopiesSaid : Prop := fnAppendDeltaCopySplitsAtWholeCopiesRow.holds Try.pinned (OpenSpec.ofChange fnAppendDeltaCopySplitsAtWholeCopiesSpec)

/-- ITS FALSE NEIGHBOUR: 'it returns false'. Refute it at one input. -/
def fnAppendDeltaCopySplitsAtWholeCopiesWrong : ChangeSpec := { name := "fnAppendDeltaCopySplitsAtWholeCopies", fn := fun _ => fun
  | [d1, d2, d3, d4] => { results := [.lit (.bool false)], args := [d1, d2, d3, d4] }
  | _ => none }
def FnAppendDeltaCopySplitsAtWholeCopiesWrongFalsely : Prop := fnAppendDeltaCopySplitsAtWholeCopiesRow.holds Try.pinned (OpenSpec.ofChange fnAppendDeltaCopySplitsAtWholeCopiesWrong)

end Rows
end Go.Proofs.Qxb6628310a
