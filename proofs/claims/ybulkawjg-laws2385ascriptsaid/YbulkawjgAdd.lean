import Derived.Test.YbulkawjgRows
import Derived.Test.YbulkawjgLaws
import Derived.Test.YbulkawjgPlain
import Derived.ProofKit
import Derived.WalkSpells
namespace Go.Proofs.Ybulkawjg.Add
open Go.ChangeShapes Go.WideShapes Go.ChangeAt Go.RowKit Go.Proofs.Ybulkawjg.Lw Go.Proofs.Ybulkawjg.Pl

theorem Yba.info3 : (Yba.prog.info? 3).map (fun i => (i.zero, i.size, i.bytes)) = some (some (.int .i64 0), 1, 8) := by kernel_rfl
theorem Yba.size3 : (Yba.prog.info? 3).map (·.size) = some 1 := by kernel_rfl

/-- The counter: its struct in block S, its counts in block N. -/
structure Own (w : World) (S N : Nat) (cs : List Int) (ops : Int) : Prop where
  st : w.heap[S]? = some (.cells [.slice (some ⟨N, 0, none⟩) cs.length cs.length, .int .i64 ops].toArray 26 (0, 0))
  ct : w.heap[N]? = some (.cells (cs.map (Value.int .i64)).toArray 3 (0, 0))
  ne : S ≠ N

theorem own_step {w wr : World} {S N : Nat} {cs : List Int} {ops : Int} {is : List Nat} {k i : Nat} {x : Int} (h : Own wr S N (bumps cs (is.take k)) ops) (hk : Kp (fun k => k ≠ S ∧ k ≠ N) w wr) (hlt : k < is.length) (hi : is.getD k 0 = i) (hx : (bumps cs (is.take k)).getD i 0 = x) :
    Own (wr.setCell ⟨N, i, none⟩ (.int .i64 (wrap64 (x + 1)))) S N (bumps cs (is.take (k + 1))) ops ∧ Kp (fun k => k ≠ S ∧ k ≠ N) w (wr.setCell ⟨N, i, none⟩ (.int .i64 (wrap64 (x + 1)))) := by
  have e : bumps cs (is.take (k + 1)) = (bumps cs (is.take k)).set i (wrap64 (x + 1)) := by rw [take_snoc is k hlt, hi, bumps_snoc, hx]
  have k1 : Kp (fun k => k ≠ N) wr (wr.setCell ⟨N, i, none⟩ (.int .i64 (wrap64 (x + 1)))) := (Kp.refl _ _).setCell (by simp) _
  refine ⟨⟨?_, ?_, h.ne⟩, hk.trans (k1.mono (fun k _ hk => hk.2))⟩
  · have := k1.row h.st h.ne
    rw [e]; simpa using this
  · rw [e]; exact set_ints h.ct i _

theorem own_end {w wr : World} {S N : Nat} {cs : List Int} {ops : Int} (h : Own wr S N cs ops) (hk : Kp (fun k => k ≠ S ∧ k ≠ N) w wr) (y : Int) :
    Own (wr.setCell ⟨S, 1, none⟩ (.int .i64 y)) S N cs y ∧ Kp (fun k => k ≠ S ∧ k ≠ N) w (wr.setCell ⟨S, 1, none⟩ (.int .i64 y)) := by
  have k1 : Kp (fun k => k ≠ S) wr (wr.setCell ⟨S, 1, none⟩ (.int .i64 y)) := (Kp.refl _ _).setCell (by simp) _
  refine ⟨⟨?_, k1.row h.ct (Ne.symm h.ne), h.ne⟩, hk.trans (k1.mono (fun k _ hk => hk.1))⟩
  rw [set_row h.st]; rfl

set_option maxRecDepth 100000 in
set_option maxHeartbeats 1000000 in
theorem add (S N : Nat) (cs : List Int) (ops : Int) (na : Option Addr) (ncap : Nat) (is : List Nat) (w : World) (h : Own w S N cs ops) (hl : is.length ≤ 100000) (hi : ∀ i ∈ is, i < cs.length) (_hc : cs.length ≤ 100000)
    (hn : ∀ j, j < is.length → ∃ D o, na = some ⟨D, o, none⟩ ∧ D ≠ S ∧ D ≠ N ∧ w.cell? ⟨D, o + j, none⟩ = some (.int .i64 ((is.getD j 0 : Nat) : Int))) :
    Calls Yba.prog 6 #[.pointer (some ⟨S, 0, none⟩), .slice na is.length ncap] w fun e w' => e = .returned (.tuple #[]) ∧ Own w' S N (bumps cs is) (wrap64 (ops + 1)) ∧ Kp (fun k => k ≠ S ∧ k ≠ N) w w' := by
  have HN : Hid (∀ j, j < is.length → ∃ D o, na = some ⟨D, o, none⟩ ∧ D ≠ S ∧ D ≠ N ∧ w.cell? ⟨D, o + j, none⟩ = some (.int .i64 ((is.getD j 0 : Nat) : Int))) := hn
  have H : Hid (Own w S N cs ops) := h
  have HI : Hid (∀ i ∈ is, i < cs.length) := hi
  have hne := h.ne
  clear hn h hi
  go_enter Yba.func6, Yba.ntmps6
  go_wp2
  go_loopw [8] (fun i wr => ∃ k : Nat, k ≤ is.length ∧ i = .int .i64 k ∧ Own wr S N (bumps cs (is.take k)) ops ∧ Kp (fun k => k ≠ S ∧ k ≠ N) w wr) (fun i _ => is.length - (intOf i).toNat)
  case atStart => exact ⟨0, Nat.zero_le _, rfl, H.out, Kp.refl _ _⟩
  case round =>
    obtain ⟨k, hk, rfl, ho, hkp⟩ := hrel
    have hS := ho.st
    have hN := ho.ct
    have hlen := bumps_len (is.take k) cs
    have s0 : wr.cell? ⟨S, 0, none⟩ = some (.slice (some ⟨N, 0, none⟩) cs.length cs.length) := by rw [cell_of_row wr S 0 _ 26 (0, 0) hS, hlen]; rfl
    have s1 : wr.cell? ⟨S, 1, none⟩ = some (.int .i64 ops) := by rw [cell_of_row wr S 1 _ 26 (0, 0) hS]; rfl
    have f1 := frozen_of_row wr S 1 _ 26 hS
    have HO : Hid (Own wr S N (bumps cs (is.take k)) ops) := ho
    have HK : Hid (Kp (fun k => k ≠ S ∧ k ≠ N) w wr) := hkp
    clear ho hkp hS
    by_cases hlt : k < is.length
    · obtain ⟨D, o, rfl, hDS, hDN, hD⟩ := HN.out k hlt
      have hD' : wr.cell? ⟨D, o + k, none⟩ = some (.int .i64 ((is.getD k 0 : Nat) : Int)) := by
        rw [World.cell?_of_block (w := w) (HK.out.block D (World.block_lt_of_cell? w _ hD) ⟨hDS, hDN⟩)]; exact hD
      have hic : is.getD k 0 < cs.length := HI.out _ (by simp [List.getD, hlt])
      obtain ⟨i, hi⟩ : ∃ i, is.getD k 0 = i := ⟨_, rfl⟩
      obtain ⟨x, hx0⟩ : ∃ x, (bumps cs (is.take k)).getD i 0 = x := ⟨_, rfl⟩
      rw [hi] at hD' hic
      have hx := cell_ints hN (j := i) (by omega)
      rw [hx0] at hx
      have fx := frozen_of_row wr N i _ 3 hN
      have hst := own_step HO.out HK.out hlt hi hx0
      have H1 : Hid (Own (wr.setCell ⟨N, i, none⟩ (.int .i64 (wrap64 (x + 1)))) S N (bumps cs (is.take (k + 1))) ops ∧ Kp (fun k => k ≠ S ∧ k ≠ N) w (wr.setCell ⟨N, i, none⟩ (.int .i64 (wrap64 (x + 1))))) := hst
      clear hD hN hlen hi hx0 hst
      go_wp2
      go_roundw
      case rel => exact ⟨k + 1, by omega, by go_num, H1.out.1, H1.out.2⟩
      case measure => simp [intOf]; omega
    · have hks : k = is.length := by omega
      subst hks
      rw [List.take_length] at HO
      have H1 : Hid (_ ∧ _) := own_end HO.out HK.out (wrap64 (ops + 1))
      clear hN hlen
      go_wp2
      go_end0
      exact ⟨rfl, H1.out.1, H1.out.2⟩
end Go.Proofs.Ybulkawjg.Add
