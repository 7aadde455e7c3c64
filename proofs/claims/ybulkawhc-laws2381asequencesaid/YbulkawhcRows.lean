/-
  No cell of these rows narrows 'for every input' (looked for: loops, veiled, ifaces, maps, wideKeys, modest, calm, conditions, laid).
  DERIVED. THE GIVEN ROWS OF THIS SEAT. 2 by the template 'for every input the law returns true; each argument reads behind the call as it read before'; 0 by the template 'total and deterministic' (their statements: YbulkawhcTotals.lean).
  GIVEN WITH THE SEED: the statements are not yours to turn. If you find one false, say at which input.
  Laid BY PROGRAM, IN A SANDBOX (cutbox-rows.mjs): the forced cells as the released guide's own fill.sh prints them over the translation 81f39353d0a429db… (all of the seat's roots in one cut). By AI agents, Wed Nov 11 2026. No macro, syntax, notation, axiom, sorry.
-/
import Derived.Test.YbulkawhcChecked
import GoSem.Claim
import GoSem.ClaimJoined
import GoSem.ClaimMapViews
import Derived.JoinedTies
import Derived.KernelRfl
namespace Go.Proofs.Ybulkawhc
/- THE CELL 'sum', in the pinned program and in every row, IS THE sha256 OF THE DUMP (.gsa) THAT YbulkawhcProg.lean LOADS. Nothing in Lean hashes anything: it is a label: what it is worth is what the hold of that sum in a sandbox is worth. -/
noncomputable def Yba.pinned : Pinned := { name := "ybulkawhc", sum := "81f39353d0a429dba41de9835a2e5dfbfb36426a355128e0d31a030493578010", checked := Yba.checked }
namespace Rows
def none {H : Type} : Left H := { results := [], args := [] }

/-- 'libsanction.LawS2381AKeep': WHATEVER THE INPUT: true; the input reads as it did. -/
def lawS2381AKeepSpec : ChangeSpec := { name := "lawS2381AKeep", fn := fun _ => fun
  | [d1, d2, d3, d4, d5] => { results := [.lit (.bool true)], args := [d1, d2, d3, d4, d5] }
  | _ => none }
def lawS2381AKeepRow : OpenClaim := { program := "ybulkawhc", sum := "81f39353d0a429dba41de9835a2e5dfbfb36426a355128e0d31a030493578010", func := "example.com/libsanction/libsanction.LawS2381AKeep", spec := "lawS2381AKeep", apart := false }
def LawS2381AKeepSaid : Prop := lawS2381AKeepRow.holds Yba.pinned (OpenSpec.ofChange lawS2381AKeepSpec)

/-- ITS FALSE NEIGHBOUR: 'it returns false'. Refute it at one input. -/
def lawS2381AKeepWrong : ChangeSpec := { name := "lawS2381AKeep", fn := fun _ => fun
  | [d1, d2, d3, d4, d5] => { results := [.lit (.bool false)], args := [d1, d2, d3, d4, d5] }
  | _ => none }
def LawS2381AKeepWrongFalsely : Prop := lawS2381AKeepRow.holds Yba.pinned (OpenSpec.ofChange lawS2381AKeepWrong)

/-- 'libsanction.LawS2381ASequence': WHATEVER THE INPUT: true; the input reads as it did. -/
def lawS2381ASequenceSpec : ChangeSpec := { name := "lawS2381ASequence", fn := fun _ => fun
  | [d1, d2] => { results := [.lit (.bool true)], args := [d1, d2] }
  | _ => none }
def lawS2381ASequenceRow : OpenClaim := { program := "ybulkawhc", sum := "81f39353d0a429dba41de9835a2e5dfbfb36426a355128e0d31a030493578010", func := "example.com/libsanction/libsanction.LawS2381ASequence", spec := "lawS2381ASequence", apart := false }
def LawS2381ASequenceSaid : Prop := lawS2381ASequenceRow.holds Yba.pinned (OpenSpec.ofChange lawS2381ASequenceSpec)

/-- ITS FALSE NEIGHBOUR: 'it returns false'. Refute it at one input. -/
def lawS2381ASequenceWrong : ChangeSpec := { name := "lawS2381ASequence", fn := fun _ => fun
  | [d1, d2] => { results := [.lit (.bool false)], args := [d1, d2] }
  | _ => none }
def LawS2381ASequenceWrongFalsely : Prop := lawS2381ASequenceRow.holds Yba.pinned (OpenSpec.ofChange lawS2381ASequenceWrong)

end Rows
end Go.Proofs.Ybulkawhc
