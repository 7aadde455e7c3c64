import Derived.Test.YbulkawjgOnWalk
import Derived.Test.YbulkawjgPlain2
namespace Go.Proofs.Ybulkawjg.Scr
open Go.ChangeShapes Go.WideShapes Go.ChangeAt Go.RowKit Go.Proofs.Ybulkawjg.Lw Go.Proofs.Ybulkawjg.Pl Go.Proofs.Ybulkawjg.Add Go.Proofs.Ybulkawjg.On

/-- A slice of slices of bytes that came in: row r is 'Z r'. -/
def Args (w : World) (ao : Option Addr) (n : Nat) (A : Nat → Option Addr) (C : Nat → Nat) (Z : Nat → List Int) : Prop :=
  ∀ r, r < n → ∃ b off, ao = some ⟨b, off, none⟩ ∧ w.cell? ⟨b, off + r, none⟩ = some (.slice (A r) (Z r).length (C r)) ∧ Arg .u8 w (A r) (Z r)

theorem args_below {w w1 : World} {ao : Option Addr} {n : Nat} {A : Nat → Option Addr} {C : Nat → Nat} {Z : Nat → List Int} (h : Args w ao n A C Z) (hb : Below w.heap.size w w1) : Args w1 ao n A C Z := by
  intro r hr
  obtain ⟨b, off, e, hc, ha⟩ := h r hr
  exact ⟨b, off, e, (hb.cell (p := ⟨b, off + r, none⟩) (World.block_lt_of_cell? w _ hc)).trans hc, arg_below ha hb⟩

set_option maxRecDepth 100000 in
theorem law_out (a0 : Int) (a1 : Option Addr) (len1 cap1 : Nat) (w : World) (h : 256 < len1) :
    Calls Yba.prog 3 #[.int .u8 a0, .slice a1 len1 cap1] w fun e w' => e = .returned (.bool true) ∧ Below w.heap.size w w' := by
  have b1 : (256 : Int) < (len1 : Int) := by omega
  go_enter Yba.func3, Yba.ntmps3
  go_wp2
  go_ret
  exact ⟨rfl, Below.refl _ _⟩

set_option maxRecDepth 100000 in
/-- newAsked(n): a counter at zero. -/
theorem newAsked (n : Nat) (w : World) (hn : n ≤ 1000) :
    Calls Yba.prog 5 #[.int .i64 (n : Int)] w fun e w' => e = .returned (.agg #[.slice (some ⟨w.heap.size + 1, 0, none⟩) n n, .int .i64 0]) ∧ w'.heap[w.heap.size + 1]? = some (.cells ((List.replicate n (0 : Int)).map (Value.int .i64)).toArray 3 (0, 0)) ∧
      Kp (fun _ => True) w w' ∧ w'.heap.size = w.heap.size + 2 := by
  obtain ⟨i3, hi, hz0, hz1, hz2⟩ := info_parts Yba.info3
  go_enter Yba.func5, Yba.ntmps5
  go_wp2_with (first
    | (at_make; refine wpList_make_row _ rfl _ _ 24 rfl 3 i3 (.int .i64 0) 8 Yba.underlying24 hi hz0 hz1 hz2 rfl _ _ _ _ n rfl rfl rfl rfl ?c1 ?c2 ?_))
  case c1 => omega
  case c2 => unfold maxLen; omega
  intro w1 hr hk hs
  have hA := hk.row (heap_alloc_new w _) trivial
  have c0 : w1.cell? ⟨w.heap.size, 0, none⟩ = some (.slice none 0 0) := by rw [cell_of_row w1 _ 0 _ 26 (0, 0) hA]; rfl
  have c1 : w1.cell? ⟨w.heap.size, 1, none⟩ = some (.int .i64 0) := by rw [cell_of_row w1 _ 1 _ 26 (0, 0) hA]; rfl
  have f0 := frozen_of_row w1 w.heap.size 0 _ 26 hA
  have f1 := frozen_of_row w1 w.heap.size 1 _ 26 hA
  have HR : Hid (w1.heap[w.heap.size + 1]? = some (.cells ((List.replicate n (0 : Int)).map (Value.int .i64)).toArray 3 (0, 0))) := by show _ = _; rw [List.map_replicate]; simpa using hr
  have HK : Hid (Kp (fun _ => True) w w1) := ((Kp.refl _ _).alloc _).trans hk
  clear hr hA hk
  go_wp2
  refine bodyPost_ret (v := .agg #[.slice (some ⟨w.heap.size + 1, 0, none⟩) n n, .int .i64 0]) (by simp [results, Yba.results5, go_sem, c0, c1]) rfl ?_
  have k2 : Kp (fun k => k ≠ w.heap.size) w1 ((w1.setCell ⟨w.heap.size, 0, none⟩ (.slice (some ⟨w.heap.size + 1, 0, none⟩) n n)).setCell ⟨w.heap.size, 1, none⟩ (.int .i64 0)) := ((Kp.refl _ _).setCell (by simp) _).setCell (by simp) _
  refine ⟨rfl, k2.row HR.out (by omega), ?_, by simp [World.setCell, hs]⟩
  exact ((HK.out.mono (q := fun k => k ≠ w.heap.size) (fun _ _ _ => trivial)).trans k2).mono (fun k hk _ => by omega)

/-- WHAT HOLDS AT THE HEAD OF THE LOOP OVER THE CALLS. -/
structure Rel (w wr : World) (m : Nat) (Z : Nat → List Int) (S N k : Nat) : Prop where
  own : Own wr S N (bumps (List.replicate m 0) (alls Z m k)) (k : Int)
  bel : Below w.heap.size w wr
  bs : w.heap.size ≤ S
  bn : w.heap.size ≤ N
  ls : S < wr.heap.size
  ln : N < wr.heap.size

/-- WHAT HOLDS WHILE A CALL's NODES ARE LAID: the first j of them lie in block g. -/
structure In (w1 wx : World) (g : Nat) (is : List Nat) (n j : Nat) : Prop where
  row : ∃ ys : List Int, wx.heap[g]? = some (.cells (ys.map (Value.int .i64)).toArray 3 (0, 0)) ∧ ys.length = n ∧ ∀ i, i < j → ys.getD i 0 = ((is.getD i 0 : Nat) : Int)
  kp : Kp (fun k => k ≠ g) w1 wx

theorem in_step {w1 wx : World} {g : Nat} {is : List Nat} {n j c : Nat} (h : In w1 wx g is n j) (hj : j < n) (hc : is.getD j 0 = c) : In w1 (wx.setCell ⟨g, j, none⟩ (.int .i64 (c : Int))) g is n (j + 1) := by
  obtain ⟨ys, h1, h2, h3⟩ := h.row
  refine ⟨⟨ys.set j (c : Int), set_ints h1 j _, by simpa using h2, fun i hi => ?_⟩, h.kp.setCell (by simp) _⟩
  by_cases e : i = j
  · subst e
    rw [hc]
    simp [List.getD, show i < ys.length by omega]
  · have : (ys.set j (c : Int)).getD i 0 = ys.getD i 0 := by simp [List.getD, List.getElem?_set_ne (Ne.symm e)]
    rw [this]
    exact h3 i (by omega)

theorem rel_step {w wr w1 wx w5 : World} {m : Nat} {Z : Nat → List Int} {S N k : Nat} {ops : Int} (h : Rel w wr m Z S N k) (hk : k ≤ 1000) (h1 : Kp (fun _ => True) wr w1) (h2 : Kp (fun k => k ≠ wr.heap.size) w1 wx) (ho : Own w5 S N (bumps (bumps (List.replicate m 0) (alls Z m k)) (idx (Z k) m)) ops) (hops : ops = wrap64 ((k : Int) + 1))
    (h3 : Kp (fun k => k ≠ S ∧ k ≠ N) wx w5) : Rel w w5 m Z S N (k + 1) := by
  have e : ops = ((k + 1 : Nat) : Int) := by rw [hops]; unfold wrap64; omega
  subst e
  rw [← bumps_append] at ho
  have hb1 : Below w.heap.size wr w1 := h1.below h.bel.size (fun _ _ => trivial)
  have hb2 : Below w.heap.size w1 wx := h2.below (Nat.le_trans h.bel.size h1.size) (fun k hk => by have := h.bel.size; omega)
  have hb3 : Below w.heap.size wx w5 := h3.below (Nat.le_trans (Nat.le_trans h.bel.size h1.size) h2.size) (fun k hk => ⟨by have := h.bs; omega, by have := h.bn; omega⟩)
  have s1 := h1.size
  have s2 := h2.size
  have s3 := h3.size
  exact ⟨ho, ((h.bel.trans hb1).trans hb2).trans hb3, h.bs, h.bn, by have := h.ls; omega, by have := h.ln; omega⟩

set_option maxRecDepth 100000 in
set_option maxHeartbeats 4000000 in
theorem law_in (a0 : Int) (ao : Option Addr) (n cap1 : Nat) (A : Nat → Option Addr) (C : Nat → Nat) (Z : Nat → List Int) (w : World) (m : Nat) (hm : a0 % 16 = (m : Int)) (_hm16 : m < 16) (ha0 : 0 ≤ a0) (ha1 : a0 ≤ 255) (h1 : n ≤ 256)
    (hA : Args w ao n A C Z) (hZ : ∀ r i, 0 ≤ (Z r).getD i 0 ∧ (Z r).getD i 0 ≤ 255) (hZl : ∀ r, (Z r).length ≤ 9223372036854775807) :
    Calls Yba.prog 3 #[.int .u8 a0, .slice ao n cap1] w fun e w' => e = .returned (.bool true) ∧ Below w.heap.size w w' := by
  have b1 : ¬ (256 : Int) < (n : Int) := by omega
  have HA : Hid (Args w ao n A C Z) := hA
  have HZ : Hid (∀ r i, 0 ≤ (Z r).getD i 0 ∧ (Z r).getD i 0 ≤ 255) := hZ
  have HL : Hid (∀ r, (Z r).length ≤ 9223372036854775807) := hZl
  clear hA hZ hZl
  obtain ⟨i3, hi, hz0, hz1, hz2⟩ := info_parts Yba.info3
  go_enter Yba.func3, Yba.ntmps3
  go_wp2
  go_loop [25] (fun i => ∃ k : Nat, k ≤ n ∧ i = .int .i64 k ∧ ∀ r, r < k → (Z r).length ≤ 256) (fun i => n - (intOf i).toNat)
  case atStart => exact ⟨0, Nat.zero_le _, rfl, by omega⟩
  case round =>
    obtain ⟨k, hk, rfl, hle⟩ := hrel
    have HLE : Hid (∀ r, r < k → (Z r).length ≤ 256) := hle
    clear hle
    by_cases hlt : k < n
    · obtain ⟨b, off, rfl, hc, _⟩ := HA.out k hlt
      have hll := HL.out k
      by_cases hbig : 256 < (Z k).length
      · have hbig' : (256 : Int) < ((Z k).length : Int) := by omega
        go_wp2
        go_ret
        exact ⟨rfl, Below.refl _ _⟩
      · have hbig' : ¬ (256 : Int) < ((Z k).length : Int) := by omega
        have HB : Hid ((Z k).length ≤ 256) := by show _ ≤ _; omega
        go_wp2
        go_round
        case rel => exact ⟨k + 1, by omega, by go_num, fun r hr => by
          by_cases e : r = k
          · rw [e]; exact HB.out
          · exact HLE.out r (by omega)⟩
        case measure => simp [intOf]; omega
    · have hkn : k = n := by omega
      subst hkn
      clear hk hlt
      go_wp2_with fail
      have hna := newAsked (m + 1) w (by omega)
      rw [show ((m + 1 : Nat) : Int) = (m : Int) + 1 by omega] at hna
      refine hna.mono ?_
      rintro e w1 ⟨rfl, hr1, hk1, hs1⟩
      have HR1 : Hid (w1.heap[w.heap.size + 1]? = some (.cells ((List.replicate (m + 1) (0 : Int)).map (Value.int .i64)).toArray 3 (0, 0))) := hr1
      have HK1 : Hid (Kp (fun _ => True) w w1) := hk1
      clear hna hr1 hk1
      go_wp2
      have R0 : Hid (Rel w (w1.alloc (.cells #[.slice (some ⟨w.heap.size + 1, 0, none⟩) (m + 1) (m + 1), .int .i64 0] 26)) (m + 1) Z (w.heap.size + 2) (w.heap.size + 1) 0) := by
        have e : w1.heap.size = w.heap.size + 2 := hs1
        refine ⟨⟨?_, ((Kp.refl (fun _ => True) w1).alloc _).row HR1.out trivial, by omega⟩, (HK1.out.alloc _).below (Nat.le_refl _) (fun _ _ => trivial), by omega, by omega, by simp; omega, by simp; omega⟩
        rw [← e, bumps_len, List.length_replicate]; exact heap_alloc_new w1 _
      clear HR1 HK1 hs1
      go_loopw [41] (fun i wr => ∃ t : Nat, t ≤ k ∧ i = .int .i64 t ∧ Rel w wr (m + 1) Z (w.heap.size + 2) (w.heap.size + 1) t) (fun i _ => k - (intOf i).toNat)
      case atStart => exact ⟨0, Nat.zero_le _, rfl, R0.out⟩
      case round =>
        clear R0
        obtain ⟨t, ht, rfl, R⟩ := hrel
        obtain ⟨wo, rfl⟩ : ∃ wo, wo = wr := ⟨wr, rfl⟩
        have HR : Hid (Rel w wo (m + 1) Z (w.heap.size + 2) (w.heap.size + 1) t) := R
        clear R
        by_cases htl : t < k
        · obtain ⟨b, off, rfl, hc, ha⟩ := args_below HA.out HR.out.bel t htl
          have hzl : (Z t).length ≤ 256 := HLE.out t htl
          have HAT : Hid (Arg .u8 wo (A t) (Z t)) := ha
          clear ha
          go_wp2_with (first
            | (at_make; refine wpList_make_row _ rfl _ _ 24 rfl 3 i3 (.int .i64 0) 8 Yba.underlying24 hi hz0 hz1 hz2 rfl _ _ _ _ (Z t).length rfl rfl rfl rfl ?c1 ?c2 ?_))
          case c1 => omega
          case c2 => unfold maxLen; omega
          intro w3 hr3 hk3 hs3
          have I0 : Hid (In w3 w3 wo.heap.size (idx (Z t) (m + 1)) (Z t).length 0) := ⟨⟨List.replicate (Z t).length 0, by rw [List.map_replicate]; simpa using hr3, by simp, by omega⟩, Kp.refl _ _⟩
          have HK3 : Hid (Kp (fun _ => True) wo w3) := hk3
          clear hr3 hk3 hc
          go_wp2
          go_loopw [50] (fun i wx => ∃ j : Nat, j ≤ (Z t).length ∧ i = .int .i64 j ∧ In w3 wx wo.heap.size (idx (Z t) (m + 1)) (Z t).length j) (fun i _ => (Z t).length - (intOf i).toNat)
          case atStart => exact ⟨0, Nat.zero_le _, rfl, I0.out⟩
          case round =>
            clear I0
            obtain ⟨j, hj, rfl, I⟩ := hrel
            obtain ⟨wx, rfl⟩ : ∃ wx, wx = wr := ⟨wr, rfl⟩
            have HI : Hid (In w3 wx wo.heap.size (idx (Z t) (m + 1)) (Z t).length j) := I
            clear I
            by_cases hjl : j < (Z t).length
            · obtain ⟨b', off', ea, hcz⟩ := HAT.out (by omega)
              have hk4 : Kp (fun k => k ≠ wo.heap.size) wo wx := (HK3.out.mono (fun _ _ _ => trivial)).trans HI.out.kp
              have hcj := cell_kp hk4 (hcz j hjl) (Nat.ne_of_lt (World.block_lt_of_cell? wo _ (hcz j hjl)))
              rw [ea]
              have hqk := HZ.out t j
              have hix := idx_get (Z t) (m + 1) j hjl
              obtain ⟨ys, hys, hyl, _⟩ := HI.out.row
              have hg0 := cell_ints hys (j := j) (by omega)
              have fg := frozen_of_row wx wo.heap.size j _ 3 hys
              clear hcz hk4 hys ea
              generalize (Z t).getD j 0 = x at hcj hqk hix
              generalize ys.getD j 0 = y0 at hg0
              obtain ⟨c, hc4⟩ := Int.eq_ofNat_of_zero_le (Int.emod_nonneg x (show ((m : Int) + 1) ≠ 0 by omega))
              have hix' : (idx (Z t) (m + 1)).getD j 0 = c := by rw [hix, show ((m + 1 : Nat) : Int) = (m : Int) + 1 by omega, hc4, Int.toNat_natCast]
              have HN : Hid (In w3 (wx.setCell ⟨wo.heap.size, j, none⟩ (.int .i64 (c : Int))) wo.heap.size (idx (Z t) (m + 1)) (Z t).length (j + 1)) := in_step HI.out hjl hix'
              obtain ⟨hx0, hx1⟩ := hqk
              clear hix hix' hyl
              go_wp2
              go_roundw
              case rel => exact ⟨j + 1, by omega, by go_num, HN.out⟩
              case measure => simp [intOf]; omega
            · have hje : j = (Z t).length := by omega
              subst hje
              obtain ⟨ys, hys, hyl, hyc⟩ := HI.out.row
              have ho : Own wx (w.heap.size + 2) (w.heap.size + 1) (bumps (List.replicate (m + 1) 0) (alls Z (m + 1) t)) (t : Int) := by
                have k4 : Kp (fun k => k ≠ wo.heap.size) wo wx := (HK3.out.mono (fun _ _ _ => trivial)).trans HI.out.kp
                have l1 := HR.out.ls
                have l2 := HR.out.ln
                exact ⟨k4.row HR.out.own.st (by omega), k4.row HR.out.own.ct (by omega), HR.out.own.ne⟩
              go_wp2_with fail
              have l1 := HR.out.ls
              have l2 := HR.out.ln
              have hadd := add (w.heap.size + 2) (w.heap.size + 1) _ _ (some ⟨wo.heap.size, 0, none⟩) (Z t).length (idx (Z t) (m + 1)) wx ho (by rw [idx_len]; omega) (by rw [bumps_len, List.length_replicate]; exact idx_lt _ _ (by omega)) (by rw [bumps_len, List.length_replicate]; omega) (fun i hi => by
                rw [idx_len] at hi
                refine ⟨wo.heap.size, 0, rfl, by omega, by omega, ?_⟩
                rw [Nat.zero_add, cell_ints hys (by omega), hyc i hi])
              rw [idx_len] at hadd
              refine hadd.mono ?_
              rintro e w5 ⟨rfl, ho5, hk5⟩
              have HR5 : Hid (Rel w w5 (m + 1) Z (w.heap.size + 2) (w.heap.size + 1) (t + 1)) := rel_step HR.out (by omega) HK3.out HI.out.kp ho5 rfl hk5
              clear hys hyl hyc ho l1 l2 hadd ho5 hk5
              go_wp2
              go_roundw
              case rel => exact ⟨t + 1, by omega, by go_num, HR5.out⟩
              case measure => simp [intOf]; omega
        · have hte : t = k := by omega
          subst hte
          have s0 : wo.cell? ⟨w.heap.size + 2, 0, none⟩ = some (.slice (some ⟨w.heap.size + 1, 0, none⟩) (m + 1) (m + 1)) := by rw [cell_of_row wo _ 0 _ 26 (0, 0) HR.out.own.st, bumps_len, List.length_replicate]; rfl
          have s1 : wo.cell? ⟨w.heap.size + 2, 1, none⟩ = some (.int .i64 (t : Int)) := by rw [cell_of_row wo _ 1 _ 26 (0, 0) HR.out.own.st]; rfl
          have HA2 : Hid (Args wo ao t A C Z) := args_below HA.out HR.out.bel
          have hal : (alls Z (m + 1) t).length ≤ 65536 := by have := alls_len Z (m + 1) t HLE.out; omega
          have HAL : Hid ((alls Z (m + 1) t).length ≤ 65536) := hal
          clear hal
          go_wp2
          go_loop [14] (fun i => ∃ j : Nat, j ≤ m + 1 ∧ i = .int .i64 j) (fun i => m + 1 - (intOf i).toNat)
          case atStart => exact ⟨0, Nat.zero_le _, rfl⟩
          case round =>
            obtain ⟨j, hj, rfl⟩ := hrel
            by_cases hjl : j < m + 1
            · have hjl' : (j : Int) < (m : Int) + 1 := by omega
              go_wp2
              go_loop [15, 85] (fun c i => ∃ r : Nat, r ≤ t ∧ i = .int .i64 r ∧ c = .int .i64 (((alls Z (m + 1) r).count j : Nat) : Int)) (fun _ i => t - (intOf i).toNat)
              case atStart => exact ⟨0, Nat.zero_le _, rfl, by simp [alls]⟩
              case round =>
                obtain ⟨r, hr, rfl, rfl⟩ := hrel
                by_cases hrl : r < t
                · obtain ⟨b, off, rfl, hc, ha⟩ := HA2.out r hrl
                  have hzl : (Z r).length ≤ 256 := HLE.out r hrl
                  have HAR : Hid (Arg .u8 wo (A r) (Z r)) := ha
                  have HS : Hid ((alls Z (m + 1) (r + 1)).count j = (alls Z (m + 1) r).count j + (idx (Z r) (m + 1)).count j) := by show _ = _; rw [alls, List.count_append]
                  have hcb : (alls Z (m + 1) r).count j ≤ 65536 := by
                    have e1 := List.count_le_length (a := j) (l := alls Z (m + 1) r)
                    have e2 := alls_len Z (m + 1) r (fun q hq => HLE.out q (by omega))
                    omega
                  clear ha
                  generalize (alls Z (m + 1) r).count j = n0 at HS hcb
                  go_wp2
                  go_loop [15, 91] (fun c i => ∃ q : Nat, q ≤ (Z r).length ∧ i = .int .i64 q ∧ c = .int .i64 ((n0 : Int) + (((idx (Z r) (m + 1)).take q).count j : Nat))) (fun _ i => (Z r).length - (intOf i).toNat)
                  case atStart => exact ⟨0, Nat.zero_le _, rfl, by simp⟩
                  case round =>
                    obtain ⟨q, hq, rfl, rfl⟩ := hrel
                    by_cases hql : q < (Z r).length
                    · obtain ⟨b', off', ea, hcz⟩ := HAR.out (by omega)
                      have hcq := hcz q hql
                      rw [ea]
                      have hqk := HZ.out r q
                      have hcnt := count_take (idx (Z r) (m + 1)) q j (by rw [idx_len]; exact hql)
                      rw [idx_get (Z r) (m + 1) q hql] at hcnt
                      clear hcz ea
                      generalize (Z r).getD q 0 = x at hcq hqk hcnt
                      obtain ⟨c, hc4⟩ := Int.eq_ofNat_of_zero_le (Int.emod_nonneg x (show ((m : Int) + 1) ≠ 0 by omega))
                      rw [show ((m + 1 : Nat) : Int) = (m : Int) + 1 by omega, hc4, Int.toNat_natCast] at hcnt
                      have HC : Hid (((idx (Z r) (m + 1)).take (q + 1)).count j = ((idx (Z r) (m + 1)).take q).count j + if c = j then 1 else 0) := hcnt
                      have hcb2 : ((idx (Z r) (m + 1)).take q).count j ≤ 256 := by
                        have e1 := List.count_le_length (a := j) (l := (idx (Z r) (m + 1)).take q)
                        have e2 := List.length_take_le q (idx (Z r) (m + 1))
                        omega
                      clear hcnt
                      generalize ((idx (Z r) (m + 1)).take q).count j = n1 at HC hcb2
                      obtain ⟨hx0, hx1⟩ := hqk
                      by_cases hcj : c = j
                      · subst hcj
                        go_wp2
                        go_round
                        case rel => exact ⟨q + 1, by omega, by go_num, by rw [HC.out, if_pos rfl]; go_num⟩
                        case measure => simp [intOf]; omega
                      · have hcjb : ((c : Int) == (j : Int)) = false := beq_eq_false_iff_ne.2 (by omega)
                        go_wp2
                        go_round
                        case rel => exact ⟨q + 1, by omega, by go_num, by rw [HC.out, if_neg hcj]; go_num⟩
                        case measure => simp [intOf]; omega
                    · have hqe : q = (Z r).length := by omega
                      subst hqe
                      have et : (idx (Z r) (m + 1)).take (Z r).length = idx (Z r) (m + 1) := List.take_of_length_le (by rw [idx_len]; exact Nat.le_refl _)
                      rw [et]
                      clear et
                      generalize (idx (Z r) (m + 1)).count j = n1 at HS
                      go_wp2
                      go_round
                      case rel => exact ⟨r + 1, by omega, by go_num, by rw [HS.out]; go_num⟩
                      case measure => simp [intOf]; omega
                · have hre : r = t := by omega
                  subst hre
                  have hM := cell_ints HR.out.own.ct (j := j) (by rw [bumps_len, List.length_replicate]; exact hjl)
                  rw [count_zeros Z (m + 1) r 65536 j hjl HAL.out (by omega)] at hM
                  generalize (alls Z (m + 1) r).count j = n0 at hM
                  go_wp2
                  go_round
                  case rel => exact ⟨j + 1, by omega, by go_num⟩
                  case measure => simp [intOf]; omega
            · have hjl' : ¬ (j : Int) < (m : Int) + 1 := by omega
              go_wp2
              go_ret
              exact ⟨rfl, HR.out.bel⟩
end Go.Proofs.Ybulkawjg.Scr
