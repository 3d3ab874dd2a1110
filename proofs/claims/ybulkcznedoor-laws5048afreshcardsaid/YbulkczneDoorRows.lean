/-
  NARROWER THAN 'FOR EVERY INPUT', by the rows' own cells (each row's printed sentence says how): LawS5048ATruth: laid · LawS5048AFresh: laid.
  DERIVED. THE GIVEN ROWS OF THIS SEAT. 2 by the template 'for every input the law returns true; each argument reads behind the call as it read before'; 0 by the template 'total and deterministic' (their statements: YbulkczneDoorTotals.lean).
  GIVEN WITH THE SEED: the statements are not yours to turn. If you find one false, say at which input.
  Laid BY PROGRAM, IN A SANDBOX (cutbox-rows.mjs): the forced cells as the released guide's own fill.sh prints them over the translation 4df8940c21dd026f… (all of the seat's roots in one cut). By AI agents, Wed Nov 11 2026. No macro, syntax, notation, axiom, sorry.
-/
import Derived.Test.YbulkczneDoorChecked
import GoSem.Claim
import GoSem.ClaimJoined
import GoSem.ClaimMapViews
import Derived.JoinedTies
import Derived.KernelRfl
namespace Go.Proofs.YbulkczneDoor
/- THE CELL 'sum', in the pinned program and in every row, IS THE sha256 OF THE DUMP (.gsa) THAT YbulkczneDoorProg.lean LOADS. Nothing in Lean hashes anything: it is a label: what it is worth is what the hold of that sum in a sandbox is worth. -/
noncomputable def Ybad.pinned : Pinned := { name := "ybulkcznedoor", sum := "4df8940c21dd026f704b905420edf4e2ee81141aeb69d1794cf2e8e7c3d3911f", checked := Ybad.checked }
namespace Rows
def none {H : Type} : Left H := { results := [], args := [] }

/- WHAT THE LISTED PACKAGE-LEVEL VARIABLES READ AS WHEN THE CALL BEGINS. Each datum BY PROGRAM (the guide's laid-datum.mjs) off the statement by which the dump's own 'gosem.cut.vars' lays the variable. In a bare row this is a premise. The card (YbulkczneDoorCards.lean) ties it to the program's text. -/
def laid_example_com_lintwall_lintwall_internal_simplify_numeric {H : Type} : DataW H := .agg [.lit (.int .i64 0), .lit (.int .i64 1), .lit (.int .i64 2), .lit (.int .i64 5), .lit (.int .i64 6)]

/-- 'simplify.LawS5048ATruth': WHATEVER THE INPUT: true; the input reads as it did. -/
def lawS5048ATruthSpec : ChangeSpec := { name := "lawS5048ATruth", vars := ["example.com/lintwall/lintwall/internal/simplify.numeric"], fn := fun _ => fun
  | [d, g1] => { results := [.lit (.bool true)], args := [d], vars := [g1] }
  | _ => none }
def lawS5048ATruthRow : OpenClaim := { program := "ybulkcznedoor", sum := "4df8940c21dd026f704b905420edf4e2ee81141aeb69d1794cf2e8e7c3d3911f", func := "example.com/lintwall/lintwall/internal/simplify.LawS5048ATruth", spec := "lawS5048ATruth", named := ["example.com/lintwall/lintwall/internal/simplify.numeric"], plainKeys := false, apart := false, laid := [("example.com/lintwall/lintwall/internal/simplify.numeric", laid_example_com_lintwall_lintwall_internal_simplify_numeric)] }
def LawS5048ATruthSaid : Prop := lawS5048ATruthRow.holds Ybad.pinned (OpenSpec.ofChange lawS5048ATruthSpec)

/-- ITS FALSE NEIGHBOUR: 'it returns false'. Refute it at one input. -/
def lawS5048ATruthWrong : ChangeSpec := { name := "lawS5048ATruth", vars := ["example.com/lintwall/lintwall/internal/simplify.numeric"], fn := fun _ => fun
  | [d, g1] => { results := [.lit (.bool false)], args := [d], vars := [g1] }
  | _ => none }
def LawS5048ATruthWrongFalsely : Prop := lawS5048ATruthRow.holds Ybad.pinned (OpenSpec.ofChange lawS5048ATruthWrong)

/-- 'simplify.LawS5048AFresh': WHATEVER THE INPUT: true; the input reads as it did. -/
def lawS5048AFreshSpec : ChangeSpec := { name := "lawS5048AFresh", vars := ["example.com/lintwall/lintwall/internal/simplify.numeric"], fn := fun _ => fun
  | [d, g1] => { results := [.lit (.bool true)], args := [d], vars := [g1] }
  | _ => none }
def lawS5048AFreshRow : OpenClaim := { program := "ybulkcznedoor", sum := "4df8940c21dd026f704b905420edf4e2ee81141aeb69d1794cf2e8e7c3d3911f", func := "example.com/lintwall/lintwall/internal/simplify.LawS5048AFresh", spec := "lawS5048AFresh", named := ["example.com/lintwall/lintwall/internal/simplify.numeric"], plainKeys := false, apart := false, laid := [("example.com/lintwall/lintwall/internal/simplify.numeric", laid_example_com_lintwall_lintwall_internal_simplify_numeric)] }
def LawS5048AFreshSaid : Prop := lawS5048AFreshRow.holds Ybad.pinned (OpenSpec.ofChange lawS5048AFreshSpec)

/-- ITS FALSE NEIGHBOUR: 'it returns false'. Refute it at one input. -/
def lawS5048AFreshWrong : ChangeSpec := { name := "lawS5048AFresh", vars := ["example.com/lintwall/lintwall/internal/simplify.numeric"], fn := fun _ => fun
  | [d, g1] => { results := [.lit (.bool false)], args := [d], vars := [g1] }
  | _ => none }
def LawS5048AFreshWrongFalsely : Prop := lawS5048AFreshRow.holds Ybad.pinned (OpenSpec.ofChange lawS5048AFreshWrong)

end Rows
end Go.Proofs.YbulkczneDoor
