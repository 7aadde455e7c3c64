import Derived.Test.YbulkawhqRows
import Derived.Test.YbulkawhqLaws
import Derived.Test.YbulkawhqPlain
import Derived.ProofKit
import Derived.WalkSpells
namespace Go.Proofs.Ybulkawhq.App
open Go.ChangeShapes Go.WideShapes Go.ChangeAt Go.RowKit Go.Proofs.Ybulkawhq.Lw Go.Proofs.Ybulkawhq.Pl

theorem Yba.info5 : (Yba.prog.info? 5).map (fun i => (i.zero, i.size, i.bytes)) = some (some (.int .u8 0), 1, 1) := by kernel_rfl
theorem Yba.size5 : (Yba.prog.info? 5).map (·.size) = some 1 := by kernel_rfl

set_option maxRecDepth 100000 in
set_option maxHeartbeats 1000000 in
/-- 'zzs2382adecode' gives back the number whose octets it is handed. -/
theorem dec (g off s cap : Nat) (v : Int) (w : World) (h1 : 1 ≤ s) (h8 : s ≤ 8) (hv1 : -9223372036854775808 ≤ v) (hv2 : v ≤ 9223372036854775807) (hf : Fits v s)
    (hc : ∀ t, t < s → w.cell? ⟨g, off + t, none⟩ = some (.int .u8 (cut v (s - 1 - t) % 256))) :
    Calls Yba.prog 6 #[.slice (some ⟨g, off, none⟩) s cap] w fun e w' => e = .returned (.int .i64 v) ∧ w' = w := by
  have hp : (0 : Int) < (s : Int) := by omega
  have h0 : w.cell? ⟨g, off, none⟩ = some (.int .u8 (cut v (s - 1) % 256)) := by simpa using hc 0 (by omega)
  have hsg := fits_sign v s h1 hf
  have hb := and128_top (cut v (s - 1) % 256) (by omega) (by omega)
  have HB : Hid (∀ e, -9223372036854775808 ≤ cut v e ∧ cut v e ≤ 9223372036854775807) := fun e => cut_bound v e hv1 hv2
  have HC : Hid (∀ t, t < s → w.cell? ⟨g, off + t, none⟩ = some (.int .u8 (cut v (s - 1 - t) % 256))) := hc
  have HS : Hid (∀ e, cut v e = cut v (e + 1) * 256 + cut v e % 256) := cut_step v
  have HZ : Hid (cut v 0 = v) := cut_zero v
  clear hc hf hv1 hv2
  generalize hxx : cut v (s - 1) % 256 = x at h0 hb hsg
  clear hxx
  by_cases hx : 128 ≤ x
  all_goals
    simp only [hx, decide_true, decide_false, if_true, if_false] at hb hsg
    have HSG : Hid (cut v s = _) := hsg
    clear hsg
    go_enter Yba.func6, Yba.ntmps6
    go_wp2
    go_loop [3, 4] (fun y i => ∃ k : Nat, k ≤ s ∧ i = .int .i64 k ∧ y = .int .i64 (cut v (s - k))) (fun _ i => s - (intOf i).toNat)
    case atStart => exact ⟨0, by omega, rfl, by rw [Nat.sub_zero, HSG.out]⟩
    case round =>
      obtain ⟨k, hk, rfl, rfl⟩ := hrel
      by_cases hlt : k < s
      · have hck := HC.out k hlt
        obtain ⟨e, he⟩ : ∃ e, s - k = e + 1 := ⟨s - k - 1, by omega⟩
        have he2 : s - 1 - k = e := by omega
        have he3 : s - (k + 1) = e := by omega
        rw [he2] at hck
        rw [he]
        have hor := or_i64 (cut v (e + 1)) (cut v e % 256) (by have := HB.out e; have := HS.out e; omega) (by have := HB.out e; have := HS.out e; omega) (by omega) (by omega)
        rw [← HS.out e] at hor
        have HO : Hid (bits .or .i64 (wrap64 (cut v (e + 1) * 256)) (wrap64 (cut v e % 256)) = cut v e) := hor
        have HE : Hid (s - (k + 1) = e) := he3
        clear hor he he2 he3
        generalize cut v e % 256 = b at hck HO
        generalize cut v (e + 1) = y at HO
        go_wp2
        go_round
        case rel => exact ⟨k + 1, by omega, by go_num, by rw [HO.out, HE.out]⟩
        case measure => simp [intOf]; omega
      · have hks : k = s := by omega
        subst hks
        have e0 : cut v (k - k) = v := by rw [Nat.sub_self]; exact HZ.out
        rw [e0]
        go_wp2
        go_ret
        exact ⟨rfl, rfl⟩

theorem one_new (w : World) (u : Value) (t : TypeId) : ∀ j x, [u][j]? = some x → (w.alloc (.cells #[u] t)).cell? ((⟨w.heap.size, 0, none⟩ : Addr).add j) = some x := by
  intro j x hj
  match j, hj with
  | 0, hj =>
    simp at hj
    subst hj
    rw [Addr.add_lit]
    exact cell_of_row _ _ _ _ t (0, 0) (heap_alloc_new w _)
theorem one_cell {k : IntKind} (b : Int) : ∀ x ∈ [Value.int k b], x.oneCell' = true := by
  intro x hx
  simp at hx
  subst hx
  rfl

/-- WHAT HOLDS IN AppendInt's SECOND LOOP: n of the s octets lie behind xs. -/
structure Rel (B : Nat) (w wr : World) (d u : Value) (xs : List Int) (v : Int) (s n : Nat) : Prop where
  own : wr.ownsRow B 5 1 u (xs.length + n) ((xs ++ oct v s n).map (Value.int .u8))
  kp : Kp (fun k => some k ≠ d.ownBlock) w wr
  at_ : ∀ g, u.ownBlock = some g → d.ownBlock = some g ∨ w.heap.size ≤ g

theorem rel_step {B : Nat} {w wr w1 : World} {d u : Value} {xs : List Int} {v : Int} {s n g cap : Nat} {b : Int} (h : Rel B w wr d u xs v s n) (o : Obj) (hb : cut v (s - 1 - n) % 256 = b)
    (hown : w1.ownsRow B 5 1 (.slice (some ⟨g, 0, none⟩) (xs.length + n + 1) cap) (xs.length + n + 1) ((xs ++ oct v s n).map (Value.int .u8) ++ [.int .u8 b]))
    (hg : (wr.alloc o).grownBy w1 u.ownBlock) (hat : u.ownBlock = some g ∨ g = wr.heap.size + 1) :
    Rel B w w1 d (.slice (some ⟨g, 0, none⟩) (xs.length + n + 1) cap) xs v s (n + 1) := by
  have k1 : Kp (fun k => some k ≠ d.ownBlock) w w1 := by
    refine ⟨hg.os.trans h.kp.os, hg.tape.trans h.kp.tape, hg.output.trans h.kp.output, Nat.le_trans h.kp.size (Nat.le_trans (by simp) hg.size), fun k hk hp => ?_⟩
    have hk2 := h.kp.size
    rw [hg.block k (by simp; omega) ?_, Below.heap_alloc _ _ _ (by omega), h.kp.block k hk hp]
    intro e
    rcases h.at_ k e.symm with h1 | h1
    · exact hp h1.symm
    · omega
  refine ⟨?_, k1, ?_⟩
  · rw [oct_succ, hb, Nat.add_assoc] at *
    simpa using hown
  · intro g' hg'
    simp [Value.ownBlock] at hg'
    subst hg'
    rcases hat with hat | hat
    · exact h.at_ _ hat
    · right; have := h.kp.size; omega

set_option maxRecDepth 100000 in
set_option maxHeartbeats 1000000 in
theorem app (B : Nat) (d : Value) (xs : List Int) (v : Int) (w : World) (hb : B ≤ w.heap.size) (hx : xs.length ≤ 100000) (hown : w.ownsRow B 5 1 d xs.length (xs.map (Value.int .u8))) (hv1 : -9223372036854775808 ≤ v) (hv2 : v ≤ 9223372036854775807) :
    Calls Yba.prog 5 #[d, .int .i64 v] w fun e w' => ∃ s u, e = .returned u ∧ 1 ≤ s ∧ s ≤ 8 ∧ Fits v s ∧ (2 ≤ s → ¬ Fits v (s - 1)) ∧ Rel B w w' d u xs v s s := by
  have R0 : Hid (∀ s, Rel B w w d d xs v s 0) := fun s => ⟨by simpa [oct] using hown, Kp.refl _ _, fun g hg => .inl hg⟩
  have F8 : Hid (Fits v 8) := fits8 v hv1 hv2
  clear hv1 hv2 hown
  obtain ⟨i5, hi, hz0, hz1, hz2⟩ := info_parts Yba.info5
  go_enter Yba.func5, Yba.ntmps5
  go_wp2
  go_loop [5] (fun t => ∃ s : Nat, 1 ≤ s ∧ s ≤ 8 ∧ t = .int .i64 s ∧ (2 ≤ s → ¬ Fits v (s - 1))) (fun t => 8 - (intOf t).toNat)
  case atStart => exact ⟨1, by omega, by omega, rfl, by omega⟩
  case round =>
    obtain ⟨s, hs1, hs8, rfl, hmin⟩ := hrel
    have HM : Hid (2 ≤ s → ¬ Fits v (s - 1)) := hmin
    clear hmin
    by_cases hgo : s < 8 ∧ ¬ Fits v s
    · obtain ⟨hlt, hnf⟩ := hgo
      have hlt' : (s : Int) < 8 := by omega
      have n0 : (v / 2 ^ (8 * s - 1) != 0) = true := by rw [bne_iff_ne]; exact fun e => hnf (.inl e)
      have n1 : (v / 2 ^ (8 * s - 1) != -1) = true := by rw [bne_iff_ne]; exact fun e => hnf (.inr e)
      have HN : Hid (¬ Fits v s) := hnf
      clear hnf
      go_wp2
      go_round
      case rel => exact ⟨s + 1, by omega, by omega, by go_num, fun _ => HN.out⟩
      case measure => simp [intOf]; omega
    · have hfit : Fits v s := by
        by_cases e : s = 8
        · rw [e]; exact F8.out
        · exact Classical.byContradiction fun h => hgo ⟨by omega, h⟩
      have HF : Hid (Fits v s) := hfit
      clear hgo
      have hcase : (8 ≤ (s : Int)) ∨ ((s : Int) < 8 ∧ (v / 2 ^ (8 * s - 1) != 0) = false) ∨ ((s : Int) < 8 ∧ (v / 2 ^ (8 * s - 1) != 0) = true ∧ (v / 2 ^ (8 * s - 1) != -1) = false) := by
        by_cases e : s = 8
        · left; omega
        · right
          by_cases h0 : v / 2 ^ (8 * s - 1) = 0
          · left; exact ⟨by omega, by simp [h0]⟩
          · right
            have h1 := hfit.resolve_left h0
            exact ⟨by omega, by simp [h0], by simp [h1]⟩
      clear hfit
      rcases hcase with c1 | ⟨c1, c2⟩ | ⟨c1, c2, c3⟩
      all_goals
        go_wp2
        go_loopw [0, 6] (fun u i wr => ∃ n : Nat, n ≤ s ∧ i = .int .i64 ((s : Int) - 1 - n) ∧ Rel B w wr d u xs v s n) (fun _ i _ => (intOf i + 1).toNat)
        case atStart => exact ⟨0, by omega, by simp, R0.out s⟩
        case round =>
          obtain ⟨n, hn, rfl, R⟩ := hrel
          have HR : Hid (Rel B w wr d u0 xs v s n) := R
          clear R
          by_cases hlt : n < s
          · obtain ⟨j, hj⟩ : ∃ j, s - 1 - n = j := ⟨_, rfl⟩
            have ej : (s : Int) - 1 - n = (j : Int) := by omega
            have hj8 : j < 8 := by omega
            have HJ : Hid (s - 1 - n = j) := hj
            have HE : Hid ((s : Int) - 1 - n = (j : Int)) := ej
            obtain ⟨b, hcut⟩ : ∃ b, v / 2 ^ (8 * j) % 256 = b := ⟨_, rfl⟩
            have HB : Hid (cut v (s - 1 - n) % 256 = b) := by rw [hj]; exact hcut
            rw [ej]
            clear hj ej
            go_wp2_with (first
              | (at_builtin; refine wpList_append_lies _ rfl _ _ 22 rfl B 5 i5 (.int .u8 0) 1 1 Yba.underlying22 hi hz0 hz1 hz2 rfl (by decide) _ (xs.length + n) ((xs ++ oct v s n).map (Value.int .u8)) rfl (HR.out.own.alloc _) ⟨wr.heap.size, 0, none⟩ 1 1 [.int .u8 b] rfl rfl (one_new _ _ _) (one_cell _) (by omega) ?c3 ?c4 ?c5 (wr.heap.size + 1) ?c6 ?_))
            case c3 => unfold maxLen; omega
            case c4 => omega
            case c5 => have := HR.out.kp.size; simp; omega
            case c6 => simp
            intro g cap w1 hown hgrow hat hlt1
            have H1 : Hid (Rel B w w1 d (.slice (some ⟨g, 0, none⟩) (xs.length + n + 1) cap) xs v s (n + 1)) := rel_step HR.out _ HB.out (by simpa using hown) hgrow hat
            clear hown hgrow hat hlt1
            go_wp2
            go_roundw
            case rel => exact ⟨n + 1, by omega, by rw [← HE.out]; go_num, H1.out⟩
            case measure => simp [intOf]
          · have hns : n = s := by omega
            subst hns
            have hneg : ¬ (0 : Int) ≤ (n : Int) - 1 - n := by omega
            go_wp2
            go_ret
            exact ⟨n, u0, rfl, hs1, hs8, HF.out, HM.out, HR.out⟩
end Go.Proofs.Ybulkawhq.App
