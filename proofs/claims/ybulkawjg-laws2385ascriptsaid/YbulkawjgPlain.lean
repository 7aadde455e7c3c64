/-
  THE PLAIN LAW: counting. No Go in sight, but for the model's word on int's wrap.
-/
import Derived.RowKit
namespace Go.Proofs.Ybulkawjg.Pl
open Go.RowKit

/-- One more at each index of the list, as int counts. -/
def bumps (cs : List Int) : List Nat → List Int
  | [] => cs
  | i :: is => bumps (cs.set i (wrap64 (cs.getD i 0 + 1))) is

theorem bumps_len (is : List Nat) : ∀ cs, (bumps cs is).length = cs.length := by
  induction is with
  | nil => intro cs; rfl
  | cons i is ih => intro cs; simp [bumps, ih]

theorem bumps_snoc (is : List Nat) (i : Nat) : ∀ cs, bumps cs (is ++ [i]) = (bumps cs is).set i (wrap64 ((bumps cs is).getD i 0 + 1)) := by
  induction is with
  | nil => intro cs; rfl
  | cons j is ih => intro cs; simp only [List.cons_append, bumps]; exact ih _

theorem wrap64_wrap64 (a b : Int) : wrap64 (wrap64 a + b) = wrap64 (a + b) := by unfold wrap64; omega

theorem bumps_get (is : List Nat) (k : Nat) : ∀ cs : List Int, k < cs.length → (wrap64 (cs.getD k 0) = cs.getD k 0) → (bumps cs is).getD k 0 = wrap64 (cs.getD k 0 + (is.count k : Int)) := by
  induction is with
  | nil => intro cs _ h; simp only [bumps, List.count_nil, Int.natCast_zero, Int.add_zero]; exact h.symm
  | cons i is ih =>
    intro cs hk h
    simp only [bumps]
    by_cases e : i = k
    · subst e
      have e1 : (cs.set i (wrap64 (cs.getD i 0 + 1))).getD i 0 = wrap64 (cs.getD i 0 + 1) := by simp [List.getD, hk]
      rw [ih _ (by simpa using hk) (by rw [e1]; have := wrap64_wrap64 (cs.getD i 0 + 1) 0; simpa using this), e1, List.count_cons_self, wrap64_wrap64]
      congr 1
      omega
    · have e1 : (cs.set i (wrap64 (cs.getD i 0 + 1))).getD k 0 = cs.getD k 0 := by simp [List.getD, List.getElem?_set_ne e]
      rw [ih _ (by simpa using hk) (by rw [e1]; exact h), e1, List.count_cons_of_ne e]

/-- The indexes that the picks name. -/
def idx (qs : List Int) (m : Nat) : List Nat := qs.map fun q => (q % (m : Int)).toNat
theorem idx_len (qs : List Int) (m : Nat) : (idx qs m).length = qs.length := by simp [idx]
theorem idx_get (qs : List Int) (m j : Nat) (hj : j < qs.length) : (idx qs m).getD j 0 = (qs.getD j 0 % (m : Int)).toNat := by simp [idx, List.getD, hj]
theorem idx_lt (qs : List Int) (m : Nat) (hm : 0 < m) : ∀ i ∈ idx qs m, i < m := by
  intro i hi
  obtain ⟨q, _, rfl⟩ := List.mem_map.1 hi
  have h1 := Int.emod_lt_of_pos q (show (0 : Int) < (m : Int) by omega)
  have h2 := Int.emod_nonneg q (show (m : Int) ≠ 0 by omega)
  omega
theorem take_snoc (l : List Nat) (j : Nat) (hj : j < l.length) : l.take (j + 1) = l.take j ++ [l.getD j 0] := by
  rw [List.take_succ_eq_append_getElem hj]
  simp [List.getD, hj]
theorem count_take (l : List Nat) (j k : Nat) (hj : j < l.length) : (l.take (j + 1)).count k = (l.take j).count k + if l.getD j 0 = k then 1 else 0 := by
  rw [take_snoc l j hj, List.count_append]
  by_cases e : l.getD j 0 = k
  · rw [if_pos e, e]; simp
  · rw [if_neg e, show [l.getD j 0].count k = 0 from List.count_eq_zero_of_not_mem (by rw [List.mem_singleton]; exact Ne.symm e)]
end Go.Proofs.Ybulkawjg.Pl
