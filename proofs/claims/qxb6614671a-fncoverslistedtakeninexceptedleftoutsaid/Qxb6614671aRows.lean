/-
  No cell of these rows narrows 'for every input' (looked for: loops, veiled, ifaces, maps, wideKeys, modest, calm, conditions, laid).
  DERIVED. THE GIVEN ROWS OF THIS SEAT. 4 by the template 'for every input the law returns true; each argument reads behind the call as it read before'; 0 by the template 'total and deterministic' (their statements: Qxb6614671aTotals.lean).
  GIVEN WITH THE SEED: the statements are not yours to turn. If you find one false, say at which input.
  Laid BY PROGRAM, IN A SANDBOX (cutbox-rows.mjs): the forced cells as the released guide's own fill.sh prints them over the translation 9ac93bce243b17b9… (all of the seat's roots in one cut). By AI agents, Wed Nov 11 2026. No macro, syntax, notation, axiom, sorry.
-/
import Derived.Test.Qxb6614671aChecked
import GoSem.Claim
import GoSem.ClaimJoined
import GoSem.ClaimMapViews
import Derived.JoinedTies
import Derived.KernelRfl
namespace Go.Proofs.Qxb6614671a
/- THE CELL 'sum', in the pinned program and in every row, IS THE sha256 OF THE DUMP (.gsa) THAT Qxb6614671aProg.lean LOADS. Nothing in Lean hashes anything: it is a label: what it is worth is what the hold of that sum in a sandbox is worth. -/
noncomputable def Try.pinned : Pinned := { name := "qxb6614671a", sum := "9ac93bce243b17b9789e2fde3ba68c29ff0adc022cf96bda0ff62d7fac8a6ae1", checked := Try.checked }
namespace Rows
def none {H : Type} : Left H := { results := [], args := [] }

/-- 'zzlaws_compare_b1.FnCoversListedTakenInExceptedLeftOut': WHATEVER THE INPUT: true; the input reads as it did. -/
def fnCoversListedTakenInExceptedLeftOutSpec : ChangeSpec := { name := "fnCoversListedTakenInExceptedLeftOut", fn := fun _ => fun
  | [d1, d2, d3] => { results := [.lit (.bool true)], args := [d1, d2, d3] }
  | _ => none }
def fnCoversListedTakenInExceptedLeftOutRow : OpenClaim := { program := "qxb6614671a", sum := "9ac93bce243b17b9789e2fde3ba68c29ff0adc022cf96bda0ff62d7fac8a6ae1", func := "example.com/rowproof/rowproof/zzlaws_compare_b1.FnCoversListedTakenInExceptedLeftOut", spec := "fnCoversListedTakenInExceptedLeftOut", apart := false }
def FnCoversListedTakenInExceptedLeftOutSaid : Prop := fnCoversListedTakenInExceptedLeftOutRow.holds Try.pinned (OpenSpec.ofChange fnCoversListedTakenInExceptedLeftOutSpec)

/-- ITS FALSE NEIGHBOUR: 'it returns false'. Refute it at one input. -/
def fnCoversListedTakenInExceptedLeftOutWrong : ChangeSpec := { name := "fnCoversListedTakenInExceptedLeftOut", fn := fun _ => fun
  | [d1, d2, d3] => { results := [.lit (.bool false)], args := [d1, d2, d3] }
  | _ => none }
def FnCoversListedTakenInExceptedLeftOutWrongFalsely : Prop := fnCoversListedTakenInExceptedLeftOutRow.holds Try.pinned (OpenSpec.ofChange fnCoversListedTakenInExceptedLeftOutWrong)

/-- 'zzlaws_compare_b1.FnCoversExceptSplitsAndTablesWin': WHATEVER THE INPUT: true; the input reads as it did. -/
def fnCoversExceptSplitsAndTablesWinSpec : ChangeSpec := { name := "fnCoversExceptSplitsAndTablesWin", fn := fun _ => fun
  | [d1, d2, d3, d4] => { results := [.lit (.bool true)], args := [d1, d2, d3, d4] }
  | _ => none }
def fnCoversExceptSplitsAndTablesWinRow : OpenClaim := { program := "qxb6614671a", sum := "9ac93bce243b17b9789e2fde3ba68c29ff0adc022cf96bda0ff62d7fac8a6ae1", func := "example.com/rowproof/rowproof/zzlaws_compare_b1.FnCoversExceptSplitsAndTablesWin", spec := "fnCoversExceptSplitsAndTablesWin", apart := false }
def FnCoversExceptSplitsAndTablesWinSaid : Prop := fnCoversExceptSplitsAndTablesWinRow.holds Try.pinned (OpenSpec.ofChange fnCoversExceptSplitsAndTablesWinSpec)

/-- ITS FALSE NEIGHBOUR: 'it returns false'. Refute it at one input. -/
def fnCoversExceptSplitsAndTablesWinWrong : ChangeSpec := { name := "fnCoversExceptSplitsAndTablesWin", fn := fun _ => fun
  | [d1, d2, d3, d4] => { results := [.lit (.bool false)], args := [d1, d2, d3, d4] }
  | _ => none }
def FnCoversExceptSplitsAndTablesWinWrongFalsely : Prop := fnCoversExceptSplitsAndTablesWinRow.holds Try.pinned (OpenSpec.ofChange fnCoversExceptSplitsAndTablesWinWrong)

/-- 'zzlaws_compare_b1.FnFloatAgainstExactPartnersInEitherOrder': WHATEVER THE INPUT: true; the input reads as it did. -/
def fnFloatAgainstExactPartnersInEitherOrderSpec : ChangeSpec := { name := "fnFloatAgainstExactPartnersInEitherOrder", fn := fun _ => fun
  | [d1, d2] => { results := [.lit (.bool true)], args := [d1, d2] }
  | _ => none }
def fnFloatAgainstExactPartnersInEitherOrderRow : OpenClaim := { program := "qxb6614671a", sum := "9ac93bce243b17b9789e2fde3ba68c29ff0adc022cf96bda0ff62d7fac8a6ae1", func := "example.com/rowproof/rowproof/zzlaws_compare_b1.FnFloatAgainstExactPartnersInEitherOrder", spec := "fnFloatAgainstExactPartnersInEitherOrder", apart := false }
def FnFloatAgainstExactPartnersInEitherOrderSaid : Prop := fnFloatAgainstExactPartnersInEitherOrderRow.holds Try.pinned (OpenSpec.ofChange fnFloatAgainstExactPartnersInEitherOrderSpec)

/-- ITS FALSE NEIGHBOUR: 'it returns false'. Refute it at one input. -/
def fnFloatAgainstExactPartnersInEitherOrderWrong : ChangeSpec := { name := "fnFloatAgainstExactPartnersInEitherOrder", fn := fun _ => fun
  | [d1, d2] => { results := [.lit (.bool false)], args := [d1, d2] }
  | _ => none }
def FnFloatAgainstExactPartnersInEitherOrderWrongFalsely : Prop := fnFloatAgainstExactPartnersInEitherOrderRow.holds Try.pinned (OpenSpec.ofChange fnFloatAgainstExactPartnersInEitherOrderWrong)

/-- 'zzlaws_compare_b1.FnFloatAgainstExactIntAndDecimalAlike': WHATEVER THE INPUT: true; the input reads as it did. -/
def fnFloatAgainstExactIntAndDecimalAlikeSpec : ChangeSpec := { name := "fnFloatAgainstExactIntAndDecimalAlike", fn := fun _ => fun
  | [d] => { results := [.lit (.bool true)], args := [d] }
  | _ => none }
def fnFloatAgainstExactIntAndDecimalAlikeRow : OpenClaim := { program := "qxb6614671a", sum := "9ac93bce243b17b9789e2fde3ba68c29ff0adc022cf96bda0ff62d7fac8a6ae1", func := "example.com/rowproof/rowproof/zzlaws_compare_b1.FnFloatAgainstExactIntAndDecimalAlike", spec := "fnFloatAgainstExactIntAndDecimalAlike", apart := false }
def FnFloatAgainstExactIntAndDecimalAlikeSaid : Prop := fnFloatAgainstExactIntAndDecimalAlikeRow.holds Try.pinned (OpenSpec.ofChange fnFloatAgainstExactIntAndDecimalAlikeSpec)

/-- ITS FALSE NEIGHBOUR: 'it returns false'. Refute it at one input. -/
def fnFloatAgainstExactIntAndDecimalAlikeWrong : ChangeSpec := { name := "fnFloatAgainstExactIntAndDecimalAlike", fn := fun _ => fun
  | [d] => { results := [.lit (.bool false)], args := [d] }
  | _ => none }
def FnFloatAgainstExactIntAndDecimalAlikeWrongFalsely : Prop := fnFloatAgainstExactIntAndDecimalAlikeRow.holds Try.pinned (OpenSpec.ofChange fnFloatAgainstExactIntAndDecimalAlikeWrong)

end Rows
end Go.Proofs.Qxb6614671a
