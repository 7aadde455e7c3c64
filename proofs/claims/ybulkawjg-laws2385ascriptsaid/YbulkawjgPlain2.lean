/-
  THE PLAIN LAW, MORE: the indexes of many calls, one behind the other.
-/
import Derived.Test.YbulkawjgPlain
namespace Go.Proofs.Ybulkawjg.Pl
open Go.RowKit

theorem bumps_append (is js : List Nat) : ∀ cs, bumps cs (is ++ js) = bumps (bumps cs is) js := by
  induction is with
  | nil => intro cs; rfl
  | cons i is ih => intro cs; simp only [List.cons_append, bumps]; exact ih _

/-- The indexes of the first k calls. -/
def alls (Z : Nat → List Int) (m : Nat) : Nat → List Nat
  | 0 => []
  | k + 1 => alls Z m k ++ idx (Z k) m

theorem alls_len (Z : Nat → List Int) (m : Nat) : ∀ k, (∀ r, r < k → (Z r).length ≤ 256) → (alls Z m k).length ≤ 256 * k
  | 0, _ => by simp [alls]
  | k + 1, h => by
    have h1 := alls_len Z m k (fun r hr => h r (by omega))
    have h2 := h k (by omega)
    simp only [alls, List.length_append, idx_len]
    omega

theorem count_zeros (Z : Nat → List Int) (m k n : Nat) (j : Nat) (hj : j < m) (hn : (alls Z m k).length ≤ n) (hb : n ≤ 1000000) :
    (bumps (List.replicate m 0) (alls Z m k)).getD j 0 = ((alls Z m k).count j : Int) := by
  have e : (List.replicate m (0 : Int)).getD j 0 = 0 := by simp [List.getD, hj]
  have h1 := List.count_le_length (a := j) (l := alls Z m k)
  rw [bumps_get _ _ _ (by simpa using hj) (by rw [e]; unfold wrap64; omega), e]
  unfold wrap64
  omega
end Go.Proofs.Ybulkawjg.Pl
