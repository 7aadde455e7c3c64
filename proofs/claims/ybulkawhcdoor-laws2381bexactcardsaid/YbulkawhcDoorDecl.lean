import Derived.Test.YbulkawhcDoorSet
import Derived.Deep.RegionHeld
namespace Go.Proofs.YbulkawhcDoor.De
open Go.ChangeShapes Go.WideShapes Go.ChangeAt Go.RowKit Go.Maps Go.Proofs.YbulkawhcDoor.Lw Go.Proofs.YbulkawhcDoor Go.Proofs.YbulkawhcDoor.Pl Go.Proofs.YbulkawhcDoor.Se

/-- The classes that a mask names; an entry's name; an entry's classes. -/
def bitsL : Nat → List Nat
  | 0 => [] | 1 => [0] | 2 => [1] | 3 => [0, 1] | 4 => [2] | 5 => [0, 2] | 6 => [1, 2] | _ => [0, 1, 2]
def en (ms : List Mem) (i : Nat) : ByteArray := if i < 3 then kn i else nm (ms.getD (i - 3) (0, 0)).1
def cls (ms : List Mem) (i : Nat) : List Nat := if i < 3 then [] else bitsL (ms.getD (i - 3) (0, 0)).2
theorem bits_3 (m : Nat) : (bitsL m).length ≤ 3 ∧ ∀ k, k < (bitsL m).length → (bitsL m).getD k 0 < 3 := by
  have h : ∀ a : Fin 8, (bitsL a).length ≤ 3 ∧ ∀ k : Fin 3, (bitsL a).getD k 0 < 3 := by decide +kernel
  have h' : ∀ m, ∃ a : Fin 8, bitsL m = bitsL a := fun m => by
    by_cases hm : m < 8
    · exact ⟨⟨m, hm⟩, rfl⟩
    · refine ⟨⟨7, by decide⟩, ?_⟩
      match m, hm with
      | 0, h => omega
      | 1, h => omega
      | 2, h => omega
      | 3, h => omega
      | 4, h => omega
      | 5, h => omega
      | 6, h => omega
      | (k + 7), _ => rfl
  obtain ⟨a, e⟩ := h' m
  rw [e]
  exact ⟨(h a).1, fun k hk => (h a).2 ⟨k, by have := (h a).1; omega⟩⟩
theorem bits_inj (a b : Nat) (ha : a < 8) (hb : b < 8) : sameS (bitsL a) (bitsL b) = (a == b) := by
  have h : ∀ x y : Fin 8, sameS (bitsL x) (bitsL y) = (x.val == y.val) := by decide +kernel
  exact h ⟨a, ha⟩ ⟨b, hb⟩
theorem cls_3 (ms : List Mem) (i : Nat) : (cls ms i).length ≤ 3 ∧ ∀ k, k < (cls ms i).length → (cls ms i).getD k 0 < 3 := by
  unfold cls
  split
  · exact ⟨by simp, fun k hk => absurd hk (by simp)⟩
  · exact bits_3 _

/-- A NAMESPACE as the law's policy lays it, at offset 'off' of block Pb. -/
structure NS (w : World) (Pb off E ecap n L : Nat) (ms : List Mem) : Prop where
  en' : n = 3 + ms.length
  nl : n ≤ 10000
  ev : w.cell? ⟨Pb, off + 1, none⟩ = some (.slice (some ⟨E, 0, none⟩) n ecap)
  lv : w.cell? ⟨Pb, off + 3, none⟩ = some (.slice (some ⟨L, 0, none⟩) n n)
  rv : w.cell? ⟨Pb, off + 5, none⟩ = some (.slice none 0 0)
  sv : w.cell? ⟨Pb, off + 6, none⟩ = some (.slice none 0 0)
  ent : ∀ i, i < n → w.cell? ⟨E, i * 4, none⟩ = some (.string (en ms i)) ∧ w.cell? ⟨E, i * 4 + 1, none⟩ = some (.int .i64 0) ∧ w.cell? ⟨E, i * 4 + 2, none⟩ = some (.bool (decide (i < 3))) ∧ w.cell? ⟨E, i * 4 + 3, none⟩ = some (.slice none 0 0)
  lnk : ∀ i, i < n → ∃ la lc, w.cell? ⟨L, i, none⟩ = some (.slice la (cls ms i).length lc) ∧ ∀ k, k < (cls ms i).length → ∃ g, la = some ⟨g, 0, none⟩ ∧ w.cell? ⟨g, k, none⟩ = some (.int .i64 ((cls ms i).getD k 0 : Int))
theorem ns_kp {w w1 : World} {Pb off E ecap n L : Nat} {ms : List Mem} (h : NS w Pb off E ecap n L ms) (hk : Kp (fun _ => True) w w1) : NS w1 Pb off E ecap n L ms :=
  ⟨h.en', h.nl, cell_kp hk h.ev trivial, cell_kp hk h.lv trivial, cell_kp hk h.rv trivial, cell_kp hk h.sv trivial, fun i hi => by
    obtain ⟨a, b, c, d⟩ := h.ent i hi
    exact ⟨cell_kp hk a trivial, cell_kp hk b trivial, cell_kp hk c trivial, cell_kp hk d trivial⟩, fun i hi => by
    obtain ⟨la, lc, a, b⟩ := h.lnk i hi
    exact ⟨la, lc, cell_kp hk a trivial, fun k hk' => by
      obtain ⟨g, e, hc⟩ := b k hk'
      exact ⟨g, e, cell_kp hk hc trivial⟩⟩⟩
theorem ns_below {B : Nat} {w w1 : World} {Pb off E ecap n L : Nat} {ms : List Mem} (h : NS w Pb off E ecap n L ms) (hk : Below B w w1) (hB : w.heap.size ≤ B) : NS w1 Pb off E ecap n L ms := by
  have tr : ∀ {p : Addr} {v : Value}, w.cell? p = some v → w1.cell? p = some v := fun {p v} hc => (hk.cell (p := p) (Nat.lt_of_lt_of_le (World.block_lt_of_cell? w _ hc) hB)).trans hc
  exact ⟨h.en', h.nl, tr h.ev, tr h.lv, tr h.rv, tr h.sv, fun i hi => by
    obtain ⟨a, b, c, d⟩ := h.ent i hi
    exact ⟨tr a, tr b, tr c, tr d⟩, fun i hi => by
    obtain ⟨la, lc, a, b⟩ := h.lnk i hi
    exact ⟨la, lc, tr a, fun k hk' => by
      obtain ⟨g, e, hc⟩ := b k hk'
      exact ⟨g, e, tr hc⟩⟩⟩
theorem side_of {w : World} {xa xi Pb off E ecap n L i : Nat} {ms : List Mem} (h : NS w Pb off E ecap n L ms) (ha : w.cell? ⟨xa, 0, none⟩ = some (.pointer (some ⟨Pb, off, none⟩))) (hx : w.cell? ⟨xi, 0, none⟩ = some (.int .i64 (i : Int))) (hi : i < n) :
    ∃ la lc, Side w xa xi (cls ms i) Pb off E ecap n L i la lc := by
  obtain ⟨la, lc, a, b⟩ := h.lnk i hi
  refine ⟨la, lc, ⟨ha, hx, h.ev, h.lv, by have := h.en'; omega, h.nl, hi, a, b, (cls_3 ms i).2, (cls_3 ms i).1, fun k hk => ?_⟩⟩
  have := (h.ent k (by have := h.en'; omega)).1
  rw [this]
  unfold en
  rw [if_pos hk]

theorem eql_nil (w : World) (t e : TypeId) (h : Ybad.prog.underlying t = some (.slice e)) : (binOp .eql t (.slice none 0 0) (.slice none 0 0)).run Ybad.prog w = .ok (.bool true) w := by
  simp only [binOp]
  simp [run_equal_slice_nil w t e none 0 0 h]

set_option maxRecDepth 100000 in
theorem inst (Pb off : Nat) (i : Int) (w : World) (h : w.cell? ⟨Pb, off + 6, none⟩ = some (.slice none 0 0)) : Calls Ybad.prog 15 #[.pointer (some ⟨Pb, off, none⟩), .int .i64 i] w fun e w' => e = .returned (.slice none 0 0) ∧ w' = w := by
  have hl := World.block_lt_of_cell? w _ h
  have he := fun w => eql_nil w 62 63 Ybad.underlying62
  go_enter Ybad.func15, Ybad.ntmps15
  go_wp2
  go_ret
  exact ⟨rfl, rfl⟩
set_option maxRecDepth 100000 in
theorem rules (Pb off : Nat) (i : Int) (w : World) (h : w.cell? ⟨Pb, off + 5, none⟩ = some (.slice none 0 0)) : Calls Ybad.prog 19 #[.pointer (some ⟨Pb, off, none⟩), .int .i64 i] w fun e w' => e = .returned (.slice none 0 0) ∧ w' = w := by
  have hl := World.block_lt_of_cell? w _ h
  have he := fun w => eql_nil w 60 105 Ybad.underlying60
  go_enter Ybad.func19, Ybad.ntmps19
  go_wp2
  go_ret
  exact ⟨rfl, rfl⟩
end Go.Proofs.YbulkawhcDoor.De
