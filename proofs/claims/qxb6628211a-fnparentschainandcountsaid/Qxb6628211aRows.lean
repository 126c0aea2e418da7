/-
  No cell of these rows narrows 'for every input' (looked for: loops, veiled, ifaces, maps, wideKeys, modest, calm, conditions, laid).
  DERIVED. THE GIVEN ROWS OF THIS SEAT. 1 by the template 'for every input the law returns true; each argument reads behind the call as it read before'; 0 by the template 'total and deterministic' (their statements: Qxb6628211aTotals.lean).
  GIVEN WITH THE SEED: the statements are not yours to turn. If you find one false, say at which input.
  Laid BY PROGRAM, IN A SANDBOX (cutbox-rows.mjs): the forced cells as the released guide's own fill.sh prints them over the translation 235b8cfa9644c3cd… (all of the seat's roots in one cut). By AI agents, Wed Nov 11 2026. No macro, syntax, notation, axiom, sorry.
-/
import Derived.Test.Qxb6628211aChecked
import GoSem.Claim
import GoSem.ClaimJoined
import GoSem.ClaimMapViews
import Derived.JoinedTies
import Derived.KernelRfl
namespace Go.Proofs.Qxb6628211a
/- THE CELL 'sum', in the pinned program and in every row, IS THE sha256 OF THE DUMP (.gsa) THAT Qxb6628211aProg.lean LOADS. Nothing in Lean hashes anything: it is a label: what it is worth is what the hold of that sum in a sandbox is worth. -/
noncomputable def Try.pinned : Pinned := { name := "qxb6628211a", sum := "235b8cfa9644c3cd83ef6137fcd3b61f257b4cad69db4a97713c09dbc0615cda", checked := Try.checked }
namespace Rows
def none {H : Type} : Left H := { results := [], args := [] }

/-- 'zzlaws_pkg_tarball_b1.FnParentsChainAndCount': WHATEVER THE INPUT: true; the input reads as it did. -/
def fnParentsChainAndCountSpec : ChangeSpec := { name := "fnParentsChainAndCount", fn := fun _ => fun
  | [d] => { results := [.lit (.bool true)], args := [d] }
  | _ => none }
def fnParentsChainAndCountRow : OpenClaim := { program := "qxb6628211a", sum := "235b8cfa9644c3cd83ef6137fcd3b61f257b4cad69db4a97713c09dbc0615cda", func := "example.com/liftway/liftway/zzlaws_pkg_tarball_b1.FnParentsChainAndCount", spec := "fnParentsChainAndCount", apart := false }
def FnParentsChainAndCountSaid : Prop := fnParentsChainAndCountRow.holds Try.pinned (OpenSpec.ofChange fnParentsChainAndCountSpec)

/-- ITS FALSE NEIGHBOUR: 'it returns false'. Refute it at one input. -/
def fnParentsChainAndCountWrong : ChangeSpec := { name := "fnParentsChainAndCount", fn := fun _ => fun
  | [d] => { results := [.lit (.bool false)], args := [d] }
  | _ => none }
def FnParentsChainAndCountWrongFalsely : Prop := fnParentsChainAndCountRow.holds Try.pinned (OpenSpec.ofChange fnParentsChainAndCountWrong)

end Rows
end Go.Proofs.Qxb6628211a
