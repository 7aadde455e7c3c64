import Derived.Test.YbulkawhqApp
namespace Go.Proofs.Ybulkawhq.Min
open Go.ChangeShapes Go.WideShapes Go.ChangeAt Go.RowKit Go.Proofs.Ybulkawhq.Lw Go.Proofs.Ybulkawhq.Pl Go.Proofs.Ybulkawhq.App

/-- The octets as they lie, behind AppendInt(nil, v). -/
theorem lies {B : Nat} {w w1 : World} {d u : Value} {xs : List Int} {v : Int} {s : Nat} (hs : 1 ≤ s) (h : Rel B w w1 d u xs v s s) :
    ∃ g cap, u = .slice (some ⟨g, 0, none⟩) (xs.length + s) cap ∧ xs.length + s ≤ cap ∧ (∀ j, j < xs.length → w1.cell? ⟨g, j, none⟩ = some (.int .u8 (xs.getD j 0))) ∧
      (∀ t, t < s → w1.cell? ⟨g, xs.length + t, none⟩ = some (.int .u8 (cut v (s - 1 - t) % 256))) := by
  have hl : (xs ++ oct v s s).length = xs.length + s := by simp [oct_len]
  have ho := h.own
  rw [← hl] at ho
  rcases own_shape ho with ⟨_, hno⟩ | ⟨g, cap, hv, hcap, _, _, hc, _⟩
  · have := congrArg List.length hno
    simp [oct_len] at this
    omega
  · rw [hl] at hv hcap
    refine ⟨g, cap, hv, hcap, fun j hj => ?_, fun t ht => ?_⟩
    · rw [hc j (by rw [hl]; omega)]
      simp [List.getD, List.getElem?_append_left hj]
    · rw [hc (xs.length + t) (by rw [hl]; omega)]
      have := oct_get v s s t ht
      simp only [List.getD] at this ⊢
      rw [List.getElem?_append_right (by omega), Nat.add_sub_cancel_left, this]

set_option maxRecDepth 100000 in
set_option maxHeartbeats 1000000 in
theorem law (v : Int) (w : World) (hv1 : -9223372036854775808 ≤ v) (hv2 : v ≤ 9223372036854775807) :
    Calls Yba.prog 4 #[.int .i64 v] w fun e w' => e = .returned (.bool true) ∧ Below w.heap.size w w' := by
  have HV1 : Hid (-9223372036854775808 ≤ v) := hv1
  have HV2 : Hid (v ≤ 9223372036854775807) := hv2
  clear hv1 hv2
  go_enter Yba.func4, Yba.ntmps4
  go_wp2_with fail
  refine (app w.heap.size (.slice none 0 0) [] v w (Nat.le_refl _) (by simp) (World.ownsRow_nil _ _ _ _) HV1.out HV2.out).mono ?_
  rintro e w1 ⟨s, u, rfl, hs1, hs8, hf, hm, hR⟩
  have hbel : Below w.heap.size w w1 := hR.kp.below (Nat.le_refl _) (fun k _ => by simp [Value.ownBlock])
  obtain ⟨g, cap, rfl, hcap, _, hcs⟩ := lies hs1 hR
  simp only [List.length_nil, Nat.zero_add] at hcap hcs ⊢
  have HB : Hid (Below w.heap.size w w1) := hbel
  have HD : Hid (Calls Yba.prog 6 #[.slice (some ⟨g, 0, none⟩) s cap] w1 fun e w' => e = .returned (.int .i64 v) ∧ w' = w1) := dec g 0 s cap v w1 hs1 hs8 HV1.out HV2.out hf (by simpa using hcs)
  by_cases h2 : 2 ≤ s
  · have hfew := fewest v s h2 hf (hm h2)
    have c0 : w1.cell? ⟨g, 0, none⟩ = some (.int .u8 (cut v (s - 1) % 256)) := by simpa using hcs 0 (by omega)
    have c1 : w1.cell? ⟨g, 1, none⟩ = some (.int .u8 (cut v (s - 2) % 256)) := by
      have := hcs 1 (by omega)
      rwa [show s - 1 - 1 = s - 2 by omega] at this
    obtain ⟨x0, h0⟩ : ∃ x, cut v (s - 1) % 256 = x := ⟨_, rfl⟩
    obtain ⟨x1, h1⟩ : ∃ x, cut v (s - 2) % 256 = x := ⟨_, rfl⟩
    have b1 : 0 ≤ x1 ∧ x1 < 256 := by omega
    rw [h0] at c0 hfew
    rw [h1] at c1 hfew
    clear h0 h1 hcs hf hm hR hbel
    have e1 := and128_eq x1 b1.1 b1.2
    have e2 := and128_top x1 b1.1 b1.2
    have i0 : (0 : Int) < (s : Int) := by omega
    have i1 : (1 : Int) < (s : Int) := by omega
    have l1 : ¬ (s : Int) < 1 := by omega
    have l8 : ¬ (8 : Int) < (s : Int) := by omega
    have l2 : (2 : Int) ≤ (s : Int) := by omega
    by_cases k0 : x0 = 0
    · have t1 : (bits .and .u8 x1 128 == 0) = false := by rw [e1]; simp; omega
      clear e1 e2 hfew
      subst k0
      go_wp2_with (go_at_call 6; refine HD.out.mono ?_; rintro e w' ⟨rfl, rfl⟩)
      go_ret
      exact ⟨rfl, HB.out⟩
    · by_cases k1 : x0 = 255
      · have t1 : (bits .and .u8 x1 128 != 0) = false := by rw [e2]; simp; omega
        clear e1 e2 hfew
        subst k1
        go_wp2_with (go_at_call 6; refine HD.out.mono ?_; rintro e w' ⟨rfl, rfl⟩)
        go_ret
        exact ⟨rfl, HB.out⟩
      · have t0 : (x0 == 0) = false := by simpa using k0
        have t1 : (x0 == 255) = false := by simpa using k1
        clear e1 e2 hfew k0 k1
        go_wp2_with (go_at_call 6; refine HD.out.mono ?_; rintro e w' ⟨rfl, rfl⟩)
        go_ret
        exact ⟨rfl, HB.out⟩
  · have l1 : ¬ (s : Int) < 1 := by omega
    have l8 : ¬ (8 : Int) < (s : Int) := by omega
    have l2 : ¬ (2 : Int) ≤ (s : Int) := by omega
    clear hcs hf hm hR hbel
    go_wp2_with (go_at_call 6; refine HD.out.mono ?_; rintro e w' ⟨rfl, rfl⟩)
    go_ret
    exact ⟨rfl, HB.out⟩
end Go.Proofs.Ybulkawhq.Min
