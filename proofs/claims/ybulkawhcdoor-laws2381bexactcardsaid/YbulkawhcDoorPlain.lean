/-
  THE PLAIN FUNCTIONS: members, masks, names. No Go in sight.
-/
import Derived.WalkKit
namespace Go.Proofs.YbulkawhcDoor.Pl
open Go.RowKit

/-- The members' names, the classes' names. -/
def nm : Nat → ByteArray
  | 0 => ⟨#[109, 48]⟩ | 1 => ⟨#[109, 49]⟩ | 2 => ⟨#[109, 50]⟩ | 3 => ⟨#[109, 51]⟩ | 4 => ⟨#[109, 52]⟩ | 5 => ⟨#[109, 53]⟩ | 6 => ⟨#[109, 54]⟩ | _ => ⟨#[109, 55]⟩
def kn : Nat → ByteArray
  | 0 => ⟨#[107, 48]⟩ | 1 => ⟨#[107, 49]⟩ | _ => ⟨#[107, 50]⟩
theorem nm_eq (a b : Nat) (ha : a < 8) (hb : b < 8) : ((nm a).toList == (nm b).toList) = (a == b) := by
  have h : ∀ x y : Fin 8, ((nm x).toList == (nm y).toList) = (x.val == y.val) := by decide +kernel
  exact h ⟨a, ha⟩ ⟨b, hb⟩
theorem kn_eq (a b : Nat) (ha : a < 3) (hb : b < 3) : ((kn a).toList == (kn b).toList) = (a == b) := by
  have h : ∀ x y : Fin 3, ((kn x).toList == (kn y).toList) = (x.val == y.val) := by decide +kernel
  exact h ⟨a, ha⟩ ⟨b, hb⟩
theorem nk_ne (a b : Nat) (ha : a < 8) (hb : b < 3) : ((nm a).toList == (kn b).toList) = false := by
  have h : ∀ (x : Fin 8) (y : Fin 3), ((nm x).toList == (kn y).toList) = false := by decide +kernel
  exact h ⟨a, ha⟩ ⟨b, hb⟩

/-- A member: its name's number, its mask. -/
abbrev Mem := Nat × Nat
def dup (ms : List Mem) (d : Nat) : Bool := ms.any fun m => m.1 == d
def stepM (ms : List Mem) (m : Mem) : List Mem := if dup ms m.1 then ms else ms ++ [m]
def memOf (x : Int) : Mem := ((x % 8).toNat, (x / 8 % 8).toNat)
def mems (xs : List Int) : Nat → List Mem
  | 0 => []
  | k + 1 => stepM (mems xs k) (memOf (xs.getD k 0))

/-- What holds of the members: small numbers, no name twice. -/
structure Good (ms : List Mem) : Prop where
  lt : ∀ m ∈ ms, m.1 < 8 ∧ m.2 < 8
  nd : (ms.map (·.1)).Nodup
theorem good_step {ms : List Mem} {m : Mem} (h : Good ms) (h1 : m.1 < 8) (h2 : m.2 < 8) : Good (stepM ms m) := by
  unfold stepM
  split
  · exact h
  · rename_i hd
    refine ⟨fun x hx => ?_, ?_⟩
    · rcases List.mem_append.1 hx with hx | hx
      · exact h.lt x hx
      · simp at hx; subst hx; exact ⟨h1, h2⟩
    · rw [List.map_append, List.nodup_append]
      refine ⟨h.nd, by simp, fun a ha b hb e => hd ?_⟩
      simp at hb
      subst hb
      obtain ⟨y, hy, rfl⟩ := List.mem_map.1 ha
      unfold dup
      exact List.any_eq_true.2 ⟨y, hy, by simp [e]⟩
theorem memOf_lt (x : Int) : (memOf x).1 < 8 ∧ (memOf x).2 < 8 := by
  unfold memOf
  have h1 := Int.emod_lt_of_pos x (show (0 : Int) < 8 by omega)
  have h2 := Int.emod_nonneg x (show (8 : Int) ≠ 0 by omega)
  have h3 := Int.emod_lt_of_pos (x / 8) (show (0 : Int) < 8 by omega)
  have h4 := Int.emod_nonneg (x / 8) (show (8 : Int) ≠ 0 by omega)
  exact ⟨by show (x % 8).toNat < 8; omega, by show (x / 8 % 8).toNat < 8; omega⟩
theorem mems_good (xs : List Int) : ∀ k, Good (mems xs k)
  | 0 => ⟨fun m hm => absurd hm (by simp [mems]), by simp [mems]⟩
  | k + 1 => good_step (mems_good xs k) (memOf_lt _).1 (memOf_lt _).2
theorem mems_len (xs : List Int) : ∀ k, (mems xs k).length ≤ k
  | 0 => by simp [mems]
  | k + 1 => by
    have := mems_len xs k
    simp only [mems, stepM]
    split
    · omega
    · simp; omega
theorem dup_take (ms : List Mem) (d j : Nat) (hj : j < ms.length) : dup (ms.take (j + 1)) d = (dup (ms.take j) d || (ms.getD j (0, 0)).1 == d) := by
  unfold dup
  rw [List.take_add_one, List.any_append]
  simp [List.getD, List.getElem?_eq_getElem hj]
end Go.Proofs.YbulkawhcDoor.Pl
