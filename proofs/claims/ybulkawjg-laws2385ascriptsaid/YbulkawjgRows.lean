/-
  No cell of these rows narrows 'for every input' (looked for: loops, veiled, ifaces, maps, wideKeys, modest, calm, conditions, laid).
  DERIVED. THE GIVEN ROWS OF THIS SEAT. 2 by the template 'for every input the law returns true; each argument reads behind the call as it read before'; 0 by the template 'total and deterministic' (their statements: YbulkawjgTotals.lean).
  GIVEN WITH THE SEED: the statements are not yours to turn. If you find one false, say at which input.
  Laid BY PROGRAM, IN A SANDBOX (cutbox-rows.mjs): the forced cells as the released guide's own fill.sh prints them over the translation e9331448fca80d53… (all of the seat's roots in one cut). By AI agents, Wed Nov 11 2026. No macro, syntax, notation, axiom, sorry.
-/
import Derived.Test.YbulkawjgChecked
import GoSem.Claim
import GoSem.ClaimJoined
import GoSem.ClaimMapViews
import Derived.JoinedTies
import Derived.KernelRfl
namespace Go.Proofs.Ybulkawjg
/- THE CELL 'sum', in the pinned program and in every row, IS THE sha256 OF THE DUMP (.gsa) THAT YbulkawjgProg.lean LOADS. Nothing in Lean hashes anything: it is a label: what it is worth is what the hold of that sum in a sandbox is worth. -/
noncomputable def Yba.pinned : Pinned := { name := "ybulkawjg", sum := "e9331448fca80d53800b91b933bb4b16c0ecca3de469897195d051873e0fdc6e", checked := Yba.checked }
namespace Rows
def none {H : Type} : Left H := { results := [], args := [] }

/-- 'bench.LawS2385AScript': WHATEVER THE INPUT: true; the input reads as it did. -/
def lawS2385AScriptSpec : ChangeSpec := { name := "lawS2385AScript", fn := fun _ => fun
  | [d1, d2] => { results := [.lit (.bool true)], args := [d1, d2] }
  | _ => none }
def lawS2385AScriptRow : OpenClaim := { program := "ybulkawjg", sum := "e9331448fca80d53800b91b933bb4b16c0ecca3de469897195d051873e0fdc6e", func := "example.com/interlock/interlock/pkg/bench.LawS2385AScript", spec := "lawS2385AScript", apart := false }
def LawS2385AScriptSaid : Prop := lawS2385AScriptRow.holds Yba.pinned (OpenSpec.ofChange lawS2385AScriptSpec)

/-- ITS FALSE NEIGHBOUR: 'it returns false'. Refute it at one input. -/
def lawS2385AScriptWrong : ChangeSpec := { name := "lawS2385AScript", fn := fun _ => fun
  | [d1, d2] => { results := [.lit (.bool false)], args := [d1, d2] }
  | _ => none }
def LawS2385AScriptWrongFalsely : Prop := lawS2385AScriptRow.holds Yba.pinned (OpenSpec.ofChange lawS2385AScriptWrong)

/-- 'bench.LawS2385AOnState': WHATEVER THE INPUT: true; the input reads as it did. -/
def lawS2385AOnStateSpec : ChangeSpec := { name := "lawS2385AOnState", fn := fun _ => fun
  | [d1, d2, d3] => { results := [.lit (.bool true)], args := [d1, d2, d3] }
  | _ => none }
def lawS2385AOnStateRow : OpenClaim := { program := "ybulkawjg", sum := "e9331448fca80d53800b91b933bb4b16c0ecca3de469897195d051873e0fdc6e", func := "example.com/interlock/interlock/pkg/bench.LawS2385AOnState", spec := "lawS2385AOnState", apart := false }
def LawS2385AOnStateSaid : Prop := lawS2385AOnStateRow.holds Yba.pinned (OpenSpec.ofChange lawS2385AOnStateSpec)

/-- ITS FALSE NEIGHBOUR: 'it returns false'. Refute it at one input. -/
def lawS2385AOnStateWrong : ChangeSpec := { name := "lawS2385AOnState", fn := fun _ => fun
  | [d1, d2, d3] => { results := [.lit (.bool false)], args := [d1, d2, d3] }
  | _ => none }
def LawS2385AOnStateWrongFalsely : Prop := lawS2385AOnStateRow.holds Yba.pinned (OpenSpec.ofChange lawS2385AOnStateWrong)

end Rows
end Go.Proofs.Ybulkawjg
