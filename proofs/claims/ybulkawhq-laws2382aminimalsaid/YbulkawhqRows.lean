/-
  No cell of these rows narrows 'for every input' (looked for: loops, veiled, ifaces, maps, wideKeys, modest, calm, conditions, laid).
  DERIVED. THE GIVEN ROWS OF THIS SEAT. 2 by the template 'for every input the law returns true; each argument reads behind the call as it read before'; 0 by the template 'total and deterministic' (their statements: YbulkawhqTotals.lean).
  GIVEN WITH THE SEED: the statements are not yours to turn. If you find one false, say at which input.
  Laid BY PROGRAM, IN A SANDBOX (cutbox-rows.mjs): the forced cells as the released guide's own fill.sh prints them over the translation bce4821def002766… (all of the seat's roots in one cut). By AI agents, Wed Nov 11 2026. No macro, syntax, notation, axiom, sorry.
-/
import Derived.Test.YbulkawhqChecked
import GoSem.Claim
import GoSem.ClaimJoined
import GoSem.ClaimMapViews
import Derived.JoinedTies
import Derived.KernelRfl
namespace Go.Proofs.Ybulkawhq
/- THE CELL 'sum', in the pinned program and in every row, IS THE sha256 OF THE DUMP (.gsa) THAT YbulkawhqProg.lean LOADS. Nothing in Lean hashes anything: it is a label: what it is worth is what the hold of that sum in a sandbox is worth. -/
noncomputable def Yba.pinned : Pinned := { name := "ybulkawhq", sum := "bce4821def002766e20c681c793e8481fa0afd609e9200d6baf0d640e53a7b52", checked := Yba.checked }
namespace Rows
def none {H : Type} : Left H := { results := [], args := [] }

/-- 'ber.LawS2382AEncodes': WHATEVER THE INPUT: true; the input reads as it did. -/
def lawS2382AEncodesSpec : ChangeSpec := { name := "lawS2382AEncodes", fn := fun _ => fun
  | [d1, d2] => { results := [.lit (.bool true)], args := [d1, d2] }
  | _ => none }
def lawS2382AEncodesRow : OpenClaim := { program := "ybulkawhq", sum := "bce4821def002766e20c681c793e8481fa0afd609e9200d6baf0d640e53a7b52", func := "example.com/mapward/mapward/internal/ber.LawS2382AEncodes", spec := "lawS2382AEncodes", apart := false }
def LawS2382AEncodesSaid : Prop := lawS2382AEncodesRow.holds Yba.pinned (OpenSpec.ofChange lawS2382AEncodesSpec)

/-- ITS FALSE NEIGHBOUR: 'it returns false'. Refute it at one input. -/
def lawS2382AEncodesWrong : ChangeSpec := { name := "lawS2382AEncodes", fn := fun _ => fun
  | [d1, d2] => { results := [.lit (.bool false)], args := [d1, d2] }
  | _ => none }
def LawS2382AEncodesWrongFalsely : Prop := lawS2382AEncodesRow.holds Yba.pinned (OpenSpec.ofChange lawS2382AEncodesWrong)

/-- 'ber.LawS2382AMinimal': WHATEVER THE INPUT: true; the input reads as it did. -/
def lawS2382AMinimalSpec : ChangeSpec := { name := "lawS2382AMinimal", fn := fun _ => fun
  | [d] => { results := [.lit (.bool true)], args := [d] }
  | _ => none }
def lawS2382AMinimalRow : OpenClaim := { program := "ybulkawhq", sum := "bce4821def002766e20c681c793e8481fa0afd609e9200d6baf0d640e53a7b52", func := "example.com/mapward/mapward/internal/ber.LawS2382AMinimal", spec := "lawS2382AMinimal", apart := false }
def LawS2382AMinimalSaid : Prop := lawS2382AMinimalRow.holds Yba.pinned (OpenSpec.ofChange lawS2382AMinimalSpec)

/-- ITS FALSE NEIGHBOUR: 'it returns false'. Refute it at one input. -/
def lawS2382AMinimalWrong : ChangeSpec := { name := "lawS2382AMinimal", fn := fun _ => fun
  | [d] => { results := [.lit (.bool false)], args := [d] }
  | _ => none }
def LawS2382AMinimalWrongFalsely : Prop := lawS2382AMinimalRow.holds Yba.pinned (OpenSpec.ofChange lawS2382AMinimalWrong)

end Rows
end Go.Proofs.Ybulkawhq
