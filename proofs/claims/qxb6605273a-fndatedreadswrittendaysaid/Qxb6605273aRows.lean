/-
  No cell of these rows narrows 'for every input' (looked for: loops, veiled, ifaces, maps, wideKeys, modest, calm, conditions, laid).
  DERIVED. THE GIVEN ROWS OF THIS SEAT. 3 by the template 'for every input the law returns true; each argument reads behind the call as it read before'; 0 by the template 'total and deterministic' (their statements: Qxb6605273aTotals.lean).
  GIVEN WITH THE SEED: the statements are not yours to turn. If you find one false, say at which input.
  Laid BY PROGRAM, IN A SANDBOX (cutbox-rows.mjs): the forced cells as the released guide's own fill.sh prints them over the translation 4724b050310e0c24… (all of the seat's roots in one cut). By AI agents, Wed Nov 11 2026. No macro, syntax, notation, axiom, sorry.
-/
import Derived.Test.Qxb6605273aChecked
import GoSem.Claim
import GoSem.ClaimJoined
import GoSem.ClaimMapViews
import Derived.JoinedTies
import Derived.KernelRfl
namespace Go.Proofs.Qxb6605273a
/- THE CELL 'sum', in the pinned program and in every row, IS THE sha256 OF THE DUMP (.gsa) THAT Qxb6605273aProg.lean LOADS. Nothing in Lean hashes anything: it is a label: what it is worth is what the hold of that sum in a sandbox is worth. -/
noncomputable def Try.pinned : Pinned := { name := "qxb6605273a", sum := "4724b050310e0c241095ab7b0d17475e2f53b93f90e84c020081733ca099eea7", checked := Try.checked }
namespace Rows
def none {H : Type} : Left H := { results := [], args := [] }

/-- 'zzlaws_statement_b1.FnIsMonthIsCanonicalMonthText': WHATEVER THE INPUT: true; the input reads as it did. -/
def fnIsMonthIsCanonicalMonthTextSpec : ChangeSpec := { name := "fnIsMonthIsCanonicalMonthText", fn := fun _ => fun
  | [d] => { results := [.lit (.bool true)], args := [d] }
  | _ => none }
def fnIsMonthIsCanonicalMonthTextRow : OpenClaim := { program := "qxb6605273a", sum := "4724b050310e0c241095ab7b0d17475e2f53b93f90e84c020081733ca099eea7", func := "example.com/tuoguan/tuoguan/zzlaws_statement_b1.FnIsMonthIsCanonicalMonthText", spec := "fnIsMonthIsCanonicalMonthText", apart := false }
def FnIsMonthIsCanonicalMonthTextSaid : Prop := fnIsMonthIsCanonicalMonthTextRow.holds Try.pinned (OpenSpec.ofChange fnIsMonthIsCanonicalMonthTextSpec)

/-- ITS FALSE NEIGHBOUR: 'it returns false'. Refute it at one input. -/
def fnIsMonthIsCanonicalMonthTextWrong : ChangeSpec := { name := "fnIsMonthIsCanonicalMonthText", fn := fun _ => fun
  | [d] => { results := [.lit (.bool false)], args := [d] }
  | _ => none }
def FnIsMonthIsCanonicalMonthTextWrongFalsely : Prop := fnIsMonthIsCanonicalMonthTextRow.holds Try.pinned (OpenSpec.ofChange fnIsMonthIsCanonicalMonthTextWrong)

/-- 'zzlaws_statement_b1.FnIsMonthOfEveryYearAndMonth': WHATEVER THE INPUT: true; the input reads as it did. -/
def fnIsMonthOfEveryYearAndMonthSpec : ChangeSpec := { name := "fnIsMonthOfEveryYearAndMonth", fn := fun _ => fun
  | [d1, d2] => { results := [.lit (.bool true)], args := [d1, d2] }
  | _ => none }
def fnIsMonthOfEveryYearAndMonthRow : OpenClaim := { program := "qxb6605273a", sum := "4724b050310e0c241095ab7b0d17475e2f53b93f90e84c020081733ca099eea7", func := "example.com/tuoguan/tuoguan/zzlaws_statement_b1.FnIsMonthOfEveryYearAndMonth", spec := "fnIsMonthOfEveryYearAndMonth", apart := false }
def FnIsMonthOfEveryYearAndMonthSaid : Prop := fnIsMonthOfEveryYearAndMonthRow.holds Try.pinned (OpenSpec.ofChange fnIsMonthOfEveryYearAndMonthSpec)

/-- ITS FALSE NEIGHBOUR: 'it returns false'. Refute it at one input. -/
def fnIsMonthOfEveryYearAndMonthWrong : ChangeSpec := { name := "fnIsMonthOfEveryYearAndMonth", fn := fun _ => fun
  | [d1, d2] => { results := [.lit (.bool false)], args := [d1, d2] }
  | _ => none }
def FnIsMonthOfEveryYearAndMonthWrongFalsely : Prop := fnIsMonthOfEveryYearAndMonthRow.holds Try.pinned (OpenSpec.ofChange fnIsMonthOfEveryYearAndMonthWrong)

/-- 'zzlaws_statement_b1.FnDatedReadsWrittenDay': WHATEVER THE INPUT: true; the input reads as it did. -/
def fnDatedReadsWrittenDaySpec : ChangeSpec := { name := "fnDatedReadsWrittenDay", fn := fun _ => fun
  | [d1, d2, d3, d4] => { results := [.lit (.bool true)], args := [d1, d2, d3, d4] }
  | _ => none }
def fnDatedReadsWrittenDayRow : OpenClaim := { program := "qxb6605273a", sum := "4724b050310e0c241095ab7b0d17475e2f53b93f90e84c020081733ca099eea7", func := "example.com/tuoguan/tuoguan/zzlaws_statement_b1.FnDatedReadsWrittenDay", spec := "fnDatedReadsWrittenDay", apart := false }
def FnDatedReadsWrittenDaySaid : Prop := fnDatedReadsWrittenDayRow.holds Try.pinned (OpenSpec.ofChange fnDatedReadsWrittenDaySpec)

/-- ITS FALSE NEIGHBOUR: 'it returns false'. Refute it at one input. -/
def fnDatedReadsWrittenDayWrong : ChangeSpec := { name := "fnDatedReadsWrittenDay", fn := fun _ => fun
  | [d1, d2, d3, d4] => { results := [.lit (.bool false)], args := [d1, d2, d3, d4] }
  | _ => none }
def FnDatedReadsWrittenDayWrongFalsely : Prop := fnDatedReadsWrittenDayRow.holds Try.pinned (OpenSpec.ofChange fnDatedReadsWrittenDayWrong)

end Rows
end Go.Proofs.Qxb6605273a
