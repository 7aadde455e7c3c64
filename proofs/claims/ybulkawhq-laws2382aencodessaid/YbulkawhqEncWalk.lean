import Derived.Test.YbulkawhqMinWalk
namespace Go.Proofs.Ybulkawhq.Enc
open Go.ChangeShapes Go.WideShapes Go.ChangeAt Go.RowKit Go.Proofs.Ybulkawhq.Lw Go.Proofs.Ybulkawhq.Pl Go.Proofs.Ybulkawhq.App

set_option maxRecDepth 100000 in
theorem law_out (a0 : Option Addr) (len0 cap0 : Nat) (v : Int) (w : World) (h : 1024 < len0) :
    Calls Yba.prog 3 #[.slice a0 len0 cap0, .int .i64 v] w fun e w' => e = .returned (.bool true) ∧ Below w.heap.size w w' := by
  have b1 : (1024 : Int) < (len0 : Int) := by omega
  go_enter Yba.func3, Yba.ntmps3
  go_wp2
  go_ret
  exact ⟨rfl, Below.refl _ _⟩

theorem cell_kp {p : Nat → Prop} {w w1 : World} {a : Addr} {v : Value} (hk : Kp p w w1) (h : w.cell? a = some v) (hp : p a.block) : w1.cell? a = some v := by
  rw [World.cell?_of_block (w := w) (hk.block a.block (World.block_lt_of_cell? w _ h) hp)]; exact h

set_option maxRecDepth 100000 in
set_option maxHeartbeats 1000000 in
theorem law_in (ao : Option Addr) (cap0 : Nat) (xs : List Int) (v : Int) (w : World) (hx : xs.length ≤ 1024) (hv1 : -9223372036854775808 ≤ v) (hv2 : v ≤ 9223372036854775807)
    (hao : 0 < xs.length → ∃ b off, ao = some ⟨b, off, none⟩ ∧ ∀ i, i < xs.length → w.cell? ⟨b, off + i, none⟩ = some (.int .u8 (xs.getD i 0))) :
    Calls Yba.prog 3 #[.slice ao xs.length cap0, .int .i64 v] w fun e w' => e = .returned (.bool true) ∧ Below w.heap.size w w' := by
  have b1 : ¬ (1024 : Int) < (xs.length : Int) := by omega
  have HV1 : Hid (-9223372036854775808 ≤ v) := hv1
  have HV2 : Hid (v ≤ 9223372036854775807) := hv2
  have HAO : Hid (0 < xs.length → ∃ b off, ao = some ⟨b, off, none⟩ ∧ ∀ i, i < xs.length → w.cell? ⟨b, off + i, none⟩ = some (.int .u8 (xs.getD i 0))) := hao
  clear hv1 hv2 hao
  obtain ⟨i5, hi, hz0, hz1, hz2⟩ := info_parts Yba.info5
  go_enter Yba.func3, Yba.ntmps3
  go_wp2_with (first
    | (at_make; refine wpList_make_row _ rfl _ _ 22 rfl 5 i5 (.int .u8 0) 1 Yba.underlying22 hi hz0 hz1 hz2 rfl _ _ _ _ xs.length rfl rfl rfl rfl ?c1 ?c2 ?_))
  case c1 => omega
  case c2 => unfold maxLen; omega
  intro w1 hr hk hs
  have hr' : w1.heap[w.heap.size]? = some (.cells (List.replicate xs.length (Value.int .u8 0)).toArray 5 (0, 0)) := by simpa using hr
  have hs1 : 0 < xs.length → ∃ ad, ao = some ad ∧ ∀ j v, (xs.map (Value.int .u8))[j]? = some v → w1.cell? (ad.add j) = some v := by
    intro h0
    obtain ⟨b, off, rfl, hc⟩ := HAO.out h0
    refine ⟨_, rfl, fun j v hj => ?_⟩
    have hj' : j < xs.length := by
      have := (List.getElem?_eq_some_iff.1 hj).1
      simpa using this
    have e : (xs.map (Value.int .u8))[j]? = some (.int .u8 (xs.getD j 0)) := by simp [List.getD, hj']
    rw [Addr.add_lit, cell_kp hk (hc j hj') trivial, ← e, hj]
  go_wp2_with (first
    | (with_reducible show wpList _ _ _ (Oper.mk _ (Op.call ⟨Callee.builtin Builtin.copy, _, _⟩) _ _ _ _ :: _) _ _
       refine wpList_copy_whole rfl _ _ 22 22 rfl 5 Yba.underlying22 Yba.size5 _ xs.length _ _ w.heap.size rfl rfl _ 5 hr' ?d1 (xs.map (Value.int .u8)) ?d2 hs1 ?d4 ?_))
  case d1 => simp
  case d2 => simp
  case d4 => exact ints_oneCell _ _
  intro w2 hr2 hk2 hz3
  have hkA : Kp (fun k => k < w.heap.size) w w2 := (hk.mono (fun _ _ _ => trivial)).trans (hk2.mono (fun k _ hk => by omega))
  have hsz2 : w2.heap.size = w.heap.size + 1 := by omega
  have hown : w2.ownsRow w.heap.size 5 1 (.slice (some ⟨w.heap.size, 0, none⟩) xs.length xs.length) xs.length (xs.map (Value.int .u8)) := own_of_row hr2 (Nat.le_refl _) (by simp) (by unfold maxLen; omega)
  have HO : Hid (w2.ownsRow w.heap.size 5 1 (.slice (some ⟨w.heap.size, 0, none⟩) xs.length xs.length) xs.length (xs.map (Value.int .u8))) := hown
  have HK : Hid (Kp (fun k => k < w.heap.size) w w2) := hkA
  clear hr hr' hk hs hs1 hr2 hk2 hz3 hown hkA
  go_wp2_with fail
  refine (app w.heap.size _ xs v w2 (by omega) (by omega) HO.out HV1.out HV2.out).mono ?_
  rintro e w3 ⟨s, u, rfl, hs1, hs8, hf, _, hR⟩
  have hk3 : Kp (fun k => k < w.heap.size) w w3 := HK.out.trans (hR.kp.mono (fun k _ hk => by simp [Value.ownBlock]; omega))
  obtain ⟨g, cap, rfl, hcap, hcx, hcs⟩ := Min.lies hs1 hR
  have HB : Hid (Below w.heap.size w w3) := hk3.below (Nat.le_refl _) (fun k hk => hk)
  have HK3 : Hid (Kp (fun k => k < w.heap.size) w w3) := hk3
  have HD : Hid (∀ q cap', Calls Yba.prog 6 #[.slice (some ⟨g, xs.length, none⟩) s cap'] (w3.drewN q) fun e w' => e = .returned (.int .i64 v) ∧ w' = w3.drewN q) := fun q cap' => dec g xs.length s cap' v (w3.drewN q) hs1 hs8 HV1.out HV2.out hf hcs
  have HCX : Hid (∀ j, j < xs.length → w3.cell? ⟨g, j, none⟩ = some (.int .u8 (xs.getD j 0))) := hcx
  clear hcx hcs hf hR hk3 HK HO hsz2
  go_wp2
  go_loopw [7] (fun i wr => ∃ k q : Nat, k ≤ xs.length ∧ i = .int .i64 k ∧ wr = w3.drewN q) (fun i _ => xs.length - (intOf i).toNat)
  case atStart => exact ⟨0, 0, Nat.zero_le _, rfl, rfl⟩
  case round =>
    obtain ⟨k, q, hk, rfl, rfl⟩ := hrel
    by_cases hlt : k < xs.length
    · obtain ⟨b, off, rfl, hc⟩ := HAO.out (by omega)
      have hA := cell_kp HK3.out (hc k hlt) (World.block_lt_of_cell? w _ (hc k hlt))
      have hM := HCX.out k hlt
      have hl2 : (k : Int) < (xs.length : Int) + (s : Int) := by omega
      clear hc
      generalize xs.getD k 0 = y at hA hM
      go_wp2
      go_quiet (fail)
      go_wp2
      go_roundw
      case rel => exact ⟨k + 1, _, by omega, by go_num, rfl⟩
      case measure => simp [intOf]; omega
    · go_wp2_with (go_at_call 6; refine (HD.out _ _).mono ?_; rintro e w' ⟨rfl, rfl⟩)
      go_ret
      exact ⟨rfl, ⟨HB.out.os, HB.out.tape, HB.out.output, HB.out.size, HB.out.block⟩⟩
end Go.Proofs.Ybulkawhq.Enc
