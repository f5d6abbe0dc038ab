/-
  No cell of these rows narrows 'for every input' (looked for: loops, veiled, ifaces, maps, wideKeys, modest, calm, conditions, laid).
  DERIVED. THE GIVEN ROWS OF THIS SEAT. 3 by the template 'for every input the law returns true; each argument reads behind the call as it read before'; 0 by the template 'total and deterministic' (their statements: Qxb6605218aTotals.lean).
  GIVEN WITH THE SEED: the statements are not yours to turn. If you find one false, say at which input.
  Laid BY PROGRAM, IN A SANDBOX (cutbox-rows.mjs): the forced cells as the released guide's own fill.sh prints them over the translation dc4dc16887b821b5… (all of the seat's roots in one cut). By AI agents, Wed Nov 11 2026. No macro, syntax, notation, axiom, sorry.
-/
import Derived.Test.Qxb6605218aChecked
import GoSem.Claim
import GoSem.ClaimJoined
import GoSem.ClaimMapViews
import Derived.JoinedTies
import Derived.KernelRfl
namespace Go.Proofs.Qxb6605218a
/- THE CELL 'sum', in the pinned program and in every row, IS THE sha256 OF THE DUMP (.gsa) THAT Qxb6605218aProg.lean LOADS. Nothing in Lean hashes anything: it is a label: what it is worth is what the hold of that sum in a sandbox is worth. -/
noncomputable def Try.pinned : Pinned := { name := "qxb6605218a", sum := "dc4dc16887b821b5b9e024bf6c6b8bb4a882f1fbb030bfca76a44788b42875a7", checked := Try.checked }
namespace Rows
def none {H : Type} : Left H := { results := [], args := [] }

/-- 'zzlaws_internal_statement_b1.FnArgumentsCountsTopLevelCommas': WHATEVER THE INPUT: true; the input reads as it did. -/
def fnArgumentsCountsTopLevelCommasSpec : ChangeSpec := { name := "fnArgumentsCountsTopLevelCommas", fn := fun _ => fun
  | [d1, d2, d3, d4] => { results := [.lit (.bool true)], args := [d1, d2, d3, d4] }
  | _ => none }
def fnArgumentsCountsTopLevelCommasRow : OpenClaim := { program := "qxb6605218a", sum := "dc4dc16887b821b5b9e024bf6c6b8bb4a882f1fbb030bfca76a44788b42875a7", func := "example.com/honeyguide/honeyguide/zzlaws_internal_statement_b1.FnArgumentsCountsTopLevelCommas", spec := "fnArgumentsCountsTopLevelCommas", apart := false }
def FnArgumentsCountsTopLevelCommasSaid : Prop := fnArgumentsCountsTopLevelCommasRow.holds Try.pinned (OpenSpec.ofChange fnArgumentsCountsTopLevelCommasSpec)

/-- ITS FALSE NEIGHBOUR: 'it returns false'. Refute it at one input. -/
def fnArgumentsCountsTopLevelCommasWrong : ChangeSpec := { name := "fnArgumentsCountsTopLevelCommas", fn := fun _ => fun
  | [d1, d2, d3, d4] => { results := [.lit (.bool false)], args := [d1, d2, d3, d4] }
  | _ => none }
def FnArgumentsCountsTopLevelCommasWrongFalsely : Prop := fnArgumentsCountsTopLevelCommasRow.holds Try.pinned (OpenSpec.ofChange fnArgumentsCountsTopLevelCommasWrong)

/-- 'zzlaws_internal_statement_b1.FnSearchAndCycleMatchesAutomaton': WHATEVER THE INPUT: true; the input reads as it did. -/
def fnSearchAndCycleMatchesAutomatonSpec : ChangeSpec := { name := "fnSearchAndCycleMatchesAutomaton", fn := fun _ => fun
  | [d1, d2, d3, d4] => { results := [.lit (.bool true)], args := [d1, d2, d3, d4] }
  | _ => none }
def fnSearchAndCycleMatchesAutomatonRow : OpenClaim := { program := "qxb6605218a", sum := "dc4dc16887b821b5b9e024bf6c6b8bb4a882f1fbb030bfca76a44788b42875a7", func := "example.com/honeyguide/honeyguide/zzlaws_internal_statement_b1.FnSearchAndCycleMatchesAutomaton", spec := "fnSearchAndCycleMatchesAutomaton", apart := false }
def FnSearchAndCycleMatchesAutomatonSaid : Prop := fnSearchAndCycleMatchesAutomatonRow.holds Try.pinned (OpenSpec.ofChange fnSearchAndCycleMatchesAutomatonSpec)

/-- ITS FALSE NEIGHBOUR: 'it returns false'. Refute it at one input. -/
def fnSearchAndCycleMatchesAutomatonWrong : ChangeSpec := { name := "fnSearchAndCycleMatchesAutomaton", fn := fun _ => fun
  | [d1, d2, d3, d4] => { results := [.lit (.bool false)], args := [d1, d2, d3, d4] }
  | _ => none }
def FnSearchAndCycleMatchesAutomatonWrongFalsely : Prop := fnSearchAndCycleMatchesAutomatonRow.holds Try.pinned (OpenSpec.ofChange fnSearchAndCycleMatchesAutomatonWrong)

/-- 'zzlaws_internal_statement_b1.FnHandlerStatementMatchesConditionAutomaton': WHATEVER THE INPUT: true; the input reads as it did. -/
def fnHandlerStatementMatchesConditionAutomatonSpec : ChangeSpec := { name := "fnHandlerStatementMatchesConditionAutomaton", fn := fun _ => fun
  | [d1, d2, d3, d4] => { results := [.lit (.bool true)], args := [d1, d2, d3, d4] }
  | _ => none }
def fnHandlerStatementMatchesConditionAutomatonRow : OpenClaim := { program := "qxb6605218a", sum := "dc4dc16887b821b5b9e024bf6c6b8bb4a882f1fbb030bfca76a44788b42875a7", func := "example.com/honeyguide/honeyguide/zzlaws_internal_statement_b1.FnHandlerStatementMatchesConditionAutomaton", spec := "fnHandlerStatementMatchesConditionAutomaton", apart := false }
def FnHandlerStatementMatchesConditionAutomatonSaid : Prop := fnHandlerStatementMatchesConditionAutomatonRow.holds Try.pinned (OpenSpec.ofChange fnHandlerStatementMatchesConditionAutomatonSpec)

/-- ITS FALSE NEIGHBOUR: 'it returns false'. Refute it at one input. -/
def fnHandlerStatementMatchesConditionAutomatonWrong : ChangeSpec := { name := "fnHandlerStatementMatchesConditionAutomaton", fn := fun _ => fun
  | [d1, d2, d3, d4] => { results := [.lit (.bool false)], args := [d1, d2, d3, d4] }
  | _ => none }
def FnHandlerStatementMatchesConditionAutomatonWrongFalsely : Prop := fnHandlerStatementMatchesConditionAutomatonRow.holds Try.pinned (OpenSpec.ofChange fnHandlerStatementMatchesConditionAutomatonWrong)

end Rows
end Go.Proofs.Qxb6605218a
