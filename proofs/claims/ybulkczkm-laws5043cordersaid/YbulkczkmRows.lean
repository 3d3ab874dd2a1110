/-
  No cell of these rows narrows 'for every input' (looked for: loops, veiled, ifaces, maps, wideKeys, modest, calm, conditions, laid).
  DERIVED. THE GIVEN ROWS OF THIS SEAT. 2 by the template 'for every input the law returns true; each argument reads behind the call as it read before'; 0 by the template 'total and deterministic' (their statements: YbulkczkmTotals.lean).
  GIVEN WITH THE SEED: the statements are not yours to turn. If you find one false, say at which input.
  Laid BY PROGRAM, IN A SANDBOX (cutbox-rows.mjs): the forced cells as the released guide's own fill.sh prints them over the translation d7f183183b090c76… (all of the seat's roots in one cut). By AI agents, Wed Nov 11 2026. No macro, syntax, notation, axiom, sorry.
-/
import Derived.Test.YbulkczkmChecked
import GoSem.Claim
import GoSem.ClaimJoined
import GoSem.ClaimMapViews
import Derived.JoinedTies
import Derived.KernelRfl
namespace Go.Proofs.Ybulkczkm
/- THE CELL 'sum', in the pinned program and in every row, IS THE sha256 OF THE DUMP (.gsa) THAT YbulkczkmProg.lean LOADS. Nothing in Lean hashes anything: it is a label: what it is worth is what the hold of that sum in a sandbox is worth. -/
noncomputable def Yba.pinned : Pinned := { name := "ybulkczkm", sum := "d7f183183b090c76a9f532ffe5a24302162498cdab91dd9e4ea98eed37a12f23", checked := Yba.checked }
namespace Rows
def none {H : Type} : Left H := { results := [], args := [] }

/-- 'engine.LawS5043CMin': WHATEVER THE INPUT: true; the input reads as it did. -/
def lawS5043CMinSpec : ChangeSpec := { name := "lawS5043CMin", fn := fun _ => fun
  | [d] => { results := [.lit (.bool true)], args := [d] }
  | _ => none }
def lawS5043CMinRow : OpenClaim := { program := "ybulkczkm", sum := "d7f183183b090c76a9f532ffe5a24302162498cdab91dd9e4ea98eed37a12f23", func := "example.com/gaplight/gaplight/engine.LawS5043CMin", spec := "lawS5043CMin", unfollowed := true, recurses := true, apart := false }
def LawS5043CMinSaid : Prop := lawS5043CMinRow.holds Yba.pinned (OpenSpec.ofChange lawS5043CMinSpec)

/-- ITS FALSE NEIGHBOUR: 'it returns false'. Refute it at one input. -/
def lawS5043CMinWrong : ChangeSpec := { name := "lawS5043CMin", fn := fun _ => fun
  | [d] => { results := [.lit (.bool false)], args := [d] }
  | _ => none }
def LawS5043CMinWrongFalsely : Prop := lawS5043CMinRow.holds Yba.pinned (OpenSpec.ofChange lawS5043CMinWrong)

/-- 'engine.LawS5043COrder': WHATEVER THE INPUT: true; the input reads as it did. -/
def lawS5043COrderSpec : ChangeSpec := { name := "lawS5043COrder", fn := fun _ => fun
  | [d] => { results := [.lit (.bool true)], args := [d] }
  | _ => none }
def lawS5043COrderRow : OpenClaim := { program := "ybulkczkm", sum := "d7f183183b090c76a9f532ffe5a24302162498cdab91dd9e4ea98eed37a12f23", func := "example.com/gaplight/gaplight/engine.LawS5043COrder", spec := "lawS5043COrder", unfollowed := true, recurses := true, apart := false }
def LawS5043COrderSaid : Prop := lawS5043COrderRow.holds Yba.pinned (OpenSpec.ofChange lawS5043COrderSpec)

/-- ITS FALSE NEIGHBOUR: 'it returns false'. Refute it at one input. -/
def lawS5043COrderWrong : ChangeSpec := { name := "lawS5043COrder", fn := fun _ => fun
  | [d] => { results := [.lit (.bool false)], args := [d] }
  | _ => none }
def LawS5043COrderWrongFalsely : Prop := lawS5043COrderRow.holds Yba.pinned (OpenSpec.ofChange lawS5043COrderWrong)

end Rows
end Go.Proofs.Ybulkczkm
