/-
  No cell of these rows narrows 'for every input' (looked for: loops, veiled, ifaces, maps, wideKeys, modest, calm, conditions, laid).
  DERIVED. THE GIVEN ROWS OF THIS SEAT. 1 by the template 'for every input the law returns true; each argument reads behind the call as it read before'; 0 by the template 'total and deterministic' (their statements: Qxb6615096aTotals.lean).
  GIVEN WITH THE SEED: the statements are not yours to turn. If you find one false, say at which input.
  Laid BY PROGRAM, IN A SANDBOX (cutbox-rows.mjs): the forced cells as the released guide's own fill.sh prints them over the translation bbcdb603820a7968… (all of the seat's roots in one cut). By AI agents, Wed Nov 11 2026. No macro, syntax, notation, axiom, sorry.
-/
import Derived.Test.Qxb6615096aChecked
import GoSem.Claim
import GoSem.ClaimJoined
import GoSem.ClaimMapViews
import Derived.JoinedTies
import Derived.KernelRfl
namespace Go.Proofs.Qxb6615096a
/- THE CELL 'sum', in the pinned program and in every row, IS THE sha256 OF THE DUMP (.gsa) THAT Qxb6615096aProg.lean LOADS. Nothing in Lean hashes anything: it is a label: what it is worth is what the hold of that sum in a sandbox is worth. -/
noncomputable def Try.pinned : Pinned := { name := "qxb6615096a", sum := "bbcdb603820a79688007ba1779f7117ce187432bca934ee3e31ae87fe9c915fa", checked := Try.checked }
namespace Rows
def none {H : Type} : Left H := { results := [], args := [] }

/-- 'zzlaws_binding_b1.FnMultiErrorUnwrapSplitsAtAnyCut': WHATEVER THE INPUT: true; the input reads as it did. -/
def fnMultiErrorUnwrapSplitsAtAnyCutSpec : ChangeSpec := { name := "fnMultiErrorUnwrapSplitsAtAnyCut", fn := fun _ => fun
  | [d1, d2] => { results := [.lit (.bool true)], args := [d1, d2] }
  | _ => none }
def fnMultiErrorUnwrapSplitsAtAnyCutRow : OpenClaim := { program := "qxb6615096a", sum := "bbcdb603820a79688007ba1779f7117ce187432bca934ee3e31ae87fe9c915fa", func := "example.com/pathfen/pathfen/zzlaws_binding_b1.FnMultiErrorUnwrapSplitsAtAnyCut", spec := "fnMultiErrorUnwrapSplitsAtAnyCut", apart := false }
def FnMultiErrorUnwrapSplitsAtAnyCutSaid : Prop := fnMultiErrorUnwrapSplitsAtAnyCutRow.holds Try.pinned (OpenSpec.ofChange fnMultiErrorUnwrapSplitsAtAnyCutSpec)

/-- ITS FALSE NEIGHBOUR: 'it returns false'. Refute it at one input. -/
def fnMultiErrorUnwrapSplitsAtAnyCutWrong : ChangeSpec := { name := "fnMultiErrorUnwrapSplitsAtAnyCut", fn := fun _ => fun
  | [d1, d2] => { results := [.lit (.bool false)], args := [d1, d2] }
  | _ => none }
def FnMultiErrorUnwrapSplitsAtAnyCutWrongFalsely : Prop := fnMultiErrorUnwrapSplitsAtAnyCutRow.holds Try.pinned (OpenSpec.ofChange fnMultiErrorUnwrapSplitsAtAnyCutWrong)

end Rows
end Go.Proofs.Qxb6615096a
