/-
  THE PLAIN FUNCTIONS: what the law's tables hold. No Go in sight.
-/
import Derived.WalkKit
namespace Go.Proofs.YbulkawlyFmt.Pl
open Go.RowKit

/-- The twelve texts. -/
def tx : Nat → List UInt8
  | 0 => [48] | 1 => [49] | 2 => [50] | 3 => [45, 49] | 4 => [49, 48] | 5 => [48, 49] | 6 => [43, 51] | 7 => [97] | 8 => [98] | 9 => [] | 10 => [49, 97] | _ => [57]
def txt (k : Nat) : ByteArray := ⟨(tx k).toArray⟩
/-- Is the text an integer, and which? -/
def isI (k : Nat) : Bool := !(k == 7 || k == 8 || k == 9 || k == 10)
def num : Nat → Int
  | 0 => 0 | 1 => 1 | 2 => 2 | 3 => -1 | 4 => 10 | 5 => 1 | 6 => 3 | 7 => 0 | 8 => 0 | 9 => 0 | 10 => 0 | _ => 9
/-- The six operators' texts. -/
def ox : Nat → List UInt8
  | 0 => [61] | 1 => [33, 61] | 2 => [60] | 3 => [62] | 4 => [60, 61] | _ => [62, 61]
def oxt (o : Nat) : ByteArray := ⟨(ox o).toArray⟩
/-- Which way two values compare. -/
def cmpi (x y : Int) : Int := if x < y then -1 else if y < x then 1 else 0
def way (a b : Nat) (qa qb : Bool) : Int :=
  if (isI a && !qa && (isI b && !qb)) = true then cmpi (num a) (num b) else (if Op.bytesLess (tx a) (tx b) = true then -1 else if tx a == tx b then 0 else 1)
def ans (o : Nat) (c : Int) : Bool :=
  match o with
  | 0 => c == 0 | 1 => c != 0 | 2 => decide (c < 0) | 3 => decide (0 < c) | 4 => decide (c ≤ 0) | _ => decide (0 ≤ c)
end Go.Proofs.YbulkawlyFmt.Pl
