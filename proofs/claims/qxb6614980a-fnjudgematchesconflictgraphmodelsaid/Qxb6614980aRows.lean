/-
  No cell of these rows narrows 'for every input' (looked for: loops, veiled, ifaces, maps, wideKeys, modest, calm, conditions, laid).
  DERIVED. THE GIVEN ROWS OF THIS SEAT. 2 by the template 'for every input the law returns true; each argument reads behind the call as it read before'; 0 by the template 'total and deterministic' (their statements: Qxb6614980aTotals.lean).
  GIVEN WITH THE SEED: the statements are not yours to turn. If you find one false, say at which input.
  Laid BY PROGRAM, IN A SANDBOX (cutbox-rows.mjs): the forced cells as the released guide's own fill.sh prints them over the translation 7f6db981ddd18fed… (all of the seat's roots in one cut). By AI agents, Wed Nov 11 2026. No macro, syntax, notation, axiom, sorry.
-/
import Derived.Test.Qxb6614980aChecked
import GoSem.Claim
import GoSem.ClaimJoined
import GoSem.ClaimMapViews
import Derived.JoinedTies
import Derived.KernelRfl
namespace Go.Proofs.Qxb6614980a
/- THE CELL 'sum', in the pinned program and in every row, IS THE sha256 OF THE DUMP (.gsa) THAT Qxb6614980aProg.lean LOADS. Nothing in Lean hashes anything: it is a label: what it is worth is what the hold of that sum in a sandbox is worth. -/
noncomputable def Try.pinned : Pinned := { name := "qxb6614980a", sum := "7f6db981ddd18fed53fbaed1d40126909c3c1d2c3736090a5f882cd603fe60f9", checked := Try.checked }
namespace Rows
def none {H : Type} : Left H := { results := [], args := [] }

/-- 'zzlaws_internal_precedence_b1.FnJudgeMatchesConflictGraphModel': WHATEVER THE INPUT: true; the input reads as it did. -/
def fnJudgeMatchesConflictGraphModelSpec : ChangeSpec := { name := "fnJudgeMatchesConflictGraphModel", fn := fun _ => fun
  | [d1, d2, d3, d4] => { results := [.lit (.bool true)], args := [d1, d2, d3, d4] }
  | _ => none }
def fnJudgeMatchesConflictGraphModelRow : OpenClaim := { program := "qxb6614980a", sum := "7f6db981ddd18fed53fbaed1d40126909c3c1d2c3736090a5f882cd603fe60f9", func := "example.com/serialis/serialis/zzlaws_internal_precedence_b1.FnJudgeMatchesConflictGraphModel", spec := "fnJudgeMatchesConflictGraphModel", unfollowed := true, recurses := true, apart := false }
def FnJudgeMatchesConflictGraphModelSaid : Prop := fnJudgeMatchesConflictGraphModelRow.holds Try.pinned (OpenSpec.ofChange fnJudgeMatchesConflictGraphModelSpec)

/-- ITS FALSE NEIGHBOUR: 'it returns false'. Refute it at one input. -/
def fnJudgeMatchesConflictGraphModelWrong : ChangeSpec := { name := "fnJudgeMatchesConflictGraphModel", fn := fun _ => fun
  | [d1, d2, d3, d4] => { results := [.lit (.bool false)], args := [d1, d2, d3, d4] }
  | _ => none }
def FnJudgeMatchesConflictGraphModelWrongFalsely : Prop := fnJudgeMatchesConflictGraphModelRow.holds Try.pinned (OpenSpec.ofChange fnJudgeMatchesConflictGraphModelWrong)

/-- 'zzlaws_internal_precedence_b1.FnJudgeVerdictIsCertified': WHATEVER THE INPUT: true; the input reads as it did. -/
def fnJudgeVerdictIsCertifiedSpec : ChangeSpec := { name := "fnJudgeVerdictIsCertified", fn := fun _ => fun
  | [d1, d2, d3] => { results := [.lit (.bool true)], args := [d1, d2, d3] }
  | _ => none }
def fnJudgeVerdictIsCertifiedRow : OpenClaim := { program := "qxb6614980a", sum := "7f6db981ddd18fed53fbaed1d40126909c3c1d2c3736090a5f882cd603fe60f9", func := "example.com/serialis/serialis/zzlaws_internal_precedence_b1.FnJudgeVerdictIsCertified", spec := "fnJudgeVerdictIsCertified", unfollowed := true, recurses := true, apart := false }
def FnJudgeVerdictIsCertifiedSaid : Prop := fnJudgeVerdictIsCertifiedRow.holds Try.pinned (OpenSpec.ofChange fnJudgeVerdictIsCertifiedSpec)

/-- ITS FALSE NEIGHBOUR: 'it returns false'. Refute it at one input. -/
def fnJudgeVerdictIsCertifiedWrong : ChangeSpec := { name := "fnJudgeVerdictIsCertified", fn := fun _ => fun
  | [d1, d2, d3] => { results := [.lit (.bool false)], args := [d1, d2, d3] }
  | _ => none }
def FnJudgeVerdictIsCertifiedWrongFalsely : Prop := fnJudgeVerdictIsCertifiedRow.holds Try.pinned (OpenSpec.ofChange fnJudgeVerdictIsCertifiedWrong)

end Rows
end Go.Proofs.Qxb6614980a
