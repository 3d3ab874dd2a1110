/-
  No cell of these rows narrows 'for every input' (looked for: loops, veiled, ifaces, maps, wideKeys, modest, calm, conditions, laid).
  DERIVED. THE GIVEN ROWS OF THIS SEAT. 4 by the template 'for every input the law returns true; each argument reads behind the call as it read before'; 0 by the template 'total and deterministic' (their statements: YbulkczmqTotals.lean).
  GIVEN WITH THE SEED: the statements are not yours to turn. If you find one false, say at which input.
  Laid BY PROGRAM, IN A SANDBOX (cutbox-rows.mjs): the forced cells as the released guide's own fill.sh prints them over the translation 49b2659aee928742… (all of the seat's roots in one cut). By AI agents, Wed Nov 11 2026. No macro, syntax, notation, axiom, sorry.
-/
import Derived.Test.YbulkczmqChecked
import GoSem.Claim
import GoSem.ClaimJoined
import GoSem.ClaimMapViews
import Derived.JoinedTies
import Derived.KernelRfl
namespace Go.Proofs.Ybulkczmq
/- THE CELL 'sum', in the pinned program and in every row, IS THE sha256 OF THE DUMP (.gsa) THAT YbulkczmqProg.lean LOADS. Nothing in Lean hashes anything: it is a label: what it is worth is what the hold of that sum in a sandbox is worth. -/
noncomputable def Yba.pinned : Pinned := { name := "ybulkczmq", sum := "49b2659aee928742c4b2fb0884118551ae463fe3f341862cd5c5a5b43c7d9c94", checked := Yba.checked }
namespace Rows
def none {H : Type} : Left H := { results := [], args := [] }

/-- 'udp.LawS5047AScript': WHATEVER THE INPUT: true; the input reads as it did. -/
def lawS5047AScriptSpec : ChangeSpec := { name := "lawS5047AScript", fn := fun _ => fun
  | [d1, d2, d3, d4] => { results := [.lit (.bool true)], args := [d1, d2, d3, d4] }
  | _ => none }
def lawS5047AScriptRow : OpenClaim := { program := "ybulkczmq", sum := "49b2659aee928742c4b2fb0884118551ae463fe3f341862cd5c5a5b43c7d9c94", func := "example.com/isochron/isochron/internal/udp.LawS5047AScript", spec := "lawS5047AScript", unfollowed := true, recurses := true, apart := false }
def LawS5047AScriptSaid : Prop := lawS5047AScriptRow.holds Yba.pinned (OpenSpec.ofChange lawS5047AScriptSpec)

/-- ITS FALSE NEIGHBOUR: 'it returns false'. Refute it at one input. -/
def lawS5047AScriptWrong : ChangeSpec := { name := "lawS5047AScript", fn := fun _ => fun
  | [d1, d2, d3, d4] => { results := [.lit (.bool false)], args := [d1, d2, d3, d4] }
  | _ => none }
def LawS5047AScriptWrongFalsely : Prop := lawS5047AScriptRow.holds Yba.pinned (OpenSpec.ofChange lawS5047AScriptWrong)

/-- 'udp.LawS5047ARepeat': WHATEVER THE INPUT: true; the input reads as it did. -/
def lawS5047ARepeatSpec : ChangeSpec := { name := "lawS5047ARepeat", fn := fun _ => fun
  | [d1, d2, d3, d4] => { results := [.lit (.bool true)], args := [d1, d2, d3, d4] }
  | _ => none }
def lawS5047ARepeatRow : OpenClaim := { program := "ybulkczmq", sum := "49b2659aee928742c4b2fb0884118551ae463fe3f341862cd5c5a5b43c7d9c94", func := "example.com/isochron/isochron/internal/udp.LawS5047ARepeat", spec := "lawS5047ARepeat", unfollowed := true, recurses := true, apart := false }
def LawS5047ARepeatSaid : Prop := lawS5047ARepeatRow.holds Yba.pinned (OpenSpec.ofChange lawS5047ARepeatSpec)

/-- ITS FALSE NEIGHBOUR: 'it returns false'. Refute it at one input. -/
def lawS5047ARepeatWrong : ChangeSpec := { name := "lawS5047ARepeat", fn := fun _ => fun
  | [d1, d2, d3, d4] => { results := [.lit (.bool false)], args := [d1, d2, d3, d4] }
  | _ => none }
def LawS5047ARepeatWrongFalsely : Prop := lawS5047ARepeatRow.holds Yba.pinned (OpenSpec.ofChange lawS5047ARepeatWrong)

/-- 'sim.LawS5047BNoPace': WHATEVER THE INPUT: true; the input reads as it did. -/
def lawS5047BNoPaceSpec : ChangeSpec := { name := "lawS5047BNoPace", fn := fun _ => fun
  | [d1, d2, d3] => { results := [.lit (.bool true)], args := [d1, d2, d3] }
  | _ => none }
def lawS5047BNoPaceRow : OpenClaim := { program := "ybulkczmq", sum := "49b2659aee928742c4b2fb0884118551ae463fe3f341862cd5c5a5b43c7d9c94", func := "example.com/isochron/isochron/internal/sim.LawS5047BNoPace", spec := "lawS5047BNoPace", inPlace := ["math.Float64bits", "math.Float64frombits"], apart := false }
def LawS5047BNoPaceSaid : Prop := lawS5047BNoPaceRow.holds Yba.pinned (OpenSpec.ofChange lawS5047BNoPaceSpec)

/-- ITS FALSE NEIGHBOUR: 'it returns false'. Refute it at one input. -/
def lawS5047BNoPaceWrong : ChangeSpec := { name := "lawS5047BNoPace", fn := fun _ => fun
  | [d1, d2, d3] => { results := [.lit (.bool false)], args := [d1, d2, d3] }
  | _ => none }
def LawS5047BNoPaceWrongFalsely : Prop := lawS5047BNoPaceRow.holds Yba.pinned (OpenSpec.ofChange lawS5047BNoPaceWrong)

/-- 'sim.LawS5047BPaced': WHATEVER THE INPUT: true; the input reads as it did. -/
def lawS5047BPacedSpec : ChangeSpec := { name := "lawS5047BPaced", fn := fun _ => fun
  | [d1, d2, d3, d4] => { results := [.lit (.bool true)], args := [d1, d2, d3, d4] }
  | _ => none }
def lawS5047BPacedRow : OpenClaim := { program := "ybulkczmq", sum := "49b2659aee928742c4b2fb0884118551ae463fe3f341862cd5c5a5b43c7d9c94", func := "example.com/isochron/isochron/internal/sim.LawS5047BPaced", spec := "lawS5047BPaced", inPlace := ["math.Float64bits", "math.Float64frombits"], apart := false }
def LawS5047BPacedSaid : Prop := lawS5047BPacedRow.holds Yba.pinned (OpenSpec.ofChange lawS5047BPacedSpec)

/-- ITS FALSE NEIGHBOUR: 'it returns false'. Refute it at one input. -/
def lawS5047BPacedWrong : ChangeSpec := { name := "lawS5047BPaced", fn := fun _ => fun
  | [d1, d2, d3, d4] => { results := [.lit (.bool false)], args := [d1, d2, d3, d4] }
  | _ => none }
def LawS5047BPacedWrongFalsely : Prop := lawS5047BPacedRow.holds Yba.pinned (OpenSpec.ofChange lawS5047BPacedWrong)

end Rows
end Go.Proofs.Ybulkczmq
