import Derived.Test.YbulkawjgAdd
namespace Go.Proofs.Ybulkawjg.On
open Go.ChangeShapes Go.WideShapes Go.ChangeAt Go.RowKit Go.Proofs.Ybulkawjg.Lw Go.Proofs.Ybulkawjg.Pl Go.Proofs.Ybulkawjg.Add

set_option maxRecDepth 100000 in
theorem law_out (a0 : Option Addr) (len0 cap0 : Nat) (a1 : Int) (a2 : Option Addr) (len2 cap2 : Nat) (w : World) (h : 1024 < len0 ∨ 1024 < len2) :
    Calls Yba.prog 4 #[.slice a0 len0 cap0, .int .i64 a1, .slice a2 len2 cap2] w fun e w' => e = .returned (.bool true) ∧ Below w.heap.size w w' := by
  by_cases c1 : 1024 < len0
  · have b1 : (1024 : Int) < (len0 : Int) := by omega
    go_enter Yba.func4, Yba.ntmps4
    go_wp2
    go_ret
    exact ⟨rfl, Below.refl _ _⟩
  · have b1 : ¬ (1024 : Int) < (len0 : Int) := by omega
    have b2 : (1024 : Int) < (len2 : Int) := by omega
    go_enter Yba.func4, Yba.ntmps4
    go_wp2
    go_ret
    exact ⟨rfl, Below.refl _ _⟩

theorem cell_kp {p : Nat → Prop} {w w1 : World} {a : Addr} {v : Value} (hk : Kp p w w1) (h : w.cell? a = some v) (hp : p a.block) : w1.cell? a = some v := by
  rw [World.cell?_of_block (w := w) (hk.block a.block (World.block_lt_of_cell? w _ h) hp)]; exact h

/-- A slice of numbers that came in. -/
def Arg (k : IntKind) (w : World) (ao : Option Addr) (xs : List Int) : Prop := 0 < xs.length → ∃ b off, ao = some ⟨b, off, none⟩ ∧ ∀ i, i < xs.length → w.cell? ⟨b, off + i, none⟩ = some (.int k (xs.getD i 0))

theorem arg_src {k : IntKind} {w w1 : World} {ao : Option Addr} {xs : List Int} (h : Arg k w ao xs) {p : Nat → Prop} (hk : Kp p w w1) (hp : ∀ b, b < w.heap.size → p b) :
    0 < xs.length → ∃ ad, ao = some ad ∧ ∀ j v, (xs.map (Value.int k))[j]? = some v → w1.cell? (ad.add j) = some v := by
  intro h0
  obtain ⟨b, off, rfl, hc⟩ := h h0
  refine ⟨_, rfl, fun j v hj => ?_⟩
  have hj' : j < xs.length := by
    have := (List.getElem?_eq_some_iff.1 hj).1
    simpa using this
  have e : (xs.map (Value.int k))[j]? = some (.int k (xs.getD j 0)) := by simp [List.getD, hj']
  rw [Addr.add_lit, cell_kp hk (hc j hj') (hp b (World.block_lt_of_cell? w _ (hc j hj'))), ← e, hj]

theorem arg_below {k : IntKind} {w w1 : World} {ao : Option Addr} {xs : List Int} (h : Arg k w ao xs) (hb : Below w.heap.size w w1) : Arg k w1 ao xs := by
  intro h0
  obtain ⟨b, off, e, hc⟩ := h h0
  exact ⟨b, off, e, fun i hi => (hb.cell (p := ⟨b, off + i, none⟩) (World.block_lt_of_cell? w _ (hc i hi))).trans (hc i hi)⟩

theorem own_below {B : Nat} {w wr : World} {S N : Nat} {cs : List Int} {ops : Int} (h : Own w S N cs ops) (hb : Below B w wr) (hS : S < B) (hN : N < B) : Own wr S N cs ops :=
  ⟨by rw [hb.block S hS]; exact h.st, by rw [hb.block N hN]; exact h.ct, h.ne⟩

theorem own_nats {w : World} {base : Nat} {e : TypeId} {v : Value} {n : Nat} {is : List Nat} (hn : is.length = n) (h : w.ownsRow base e 1 v n (is.map (fun (c : Nat) => Value.int .i64 (c : Int)))) :
    ∃ ua ucap, v = .slice ua n ucap ∧ ∀ j, j < n → ∃ g, ua = some ⟨g, 0, none⟩ ∧ base ≤ g ∧ w.cell? ⟨g, 0 + j, none⟩ = some (.int .i64 ((is.getD j 0 : Nat) : Int)) := by
  have h' := h
  rcases h.2 with ⟨hv, h0⟩ | ⟨g, cap, cur, hv, hg, hh, _⟩
  · exact ⟨none, 0, by rw [hv, h0], fun j hj => by omega⟩
  · refine ⟨_, cap, hv, fun j hj => ⟨g, rfl, hg, ?_⟩⟩
    have := h'.cells (g := g) (by rw [hv]; rfl) j (.int .i64 ((is.getD j 0 : Nat) : Int)) (by simp [List.getD, show j < is.length by omega])
    rw [Addr.add_lit] at this
    exact this

set_option maxRecDepth 100000 in
set_option maxHeartbeats 2000000 in
theorem law_some (ao po : Option Addr) (cap0 cap2 : Nat) (ms qs : List Int) (a1 : Int) (w : World) (hm0 : 0 < ms.length) (hm : ms.length ≤ 1024) (hq : qs.length ≤ 1024)
    (hA : Arg .i64 w ao ms) (hP : Arg .u16 w po qs) (hqb : ∀ i, 0 ≤ qs.getD i 0 ∧ qs.getD i 0 ≤ 65535) (hmb : ∀ i, wrap64 (ms.getD i 0) = ms.getD i 0) :
    Calls Yba.prog 4 #[.slice ao ms.length cap0, .int .i64 a1, .slice po qs.length cap2] w fun e w' => e = .returned (.bool true) ∧ Below w.heap.size w w' := by
  have b1 : ¬ (1024 : Int) < (ms.length : Int) := by omega
  have b2 : ¬ (1024 : Int) < (qs.length : Int) := by omega
  have b3 : (0 : Int) < (ms.length : Int) := by omega
  have HA : Hid (Arg .i64 w ao ms) := hA
  have HP : Hid (Arg .u16 w po qs) := hP
  have HQ : Hid (∀ i, 0 ≤ qs.getD i 0 ∧ qs.getD i 0 ≤ 65535) := hqb
  have HMB : Hid (∀ i, wrap64 (ms.getD i 0) = ms.getD i 0) := hmb
  clear hA hP hqb hmb
  obtain ⟨i3, hi, hz0, hz1, hz2⟩ := info_parts Yba.info3
  go_enter Yba.func4, Yba.ntmps4
  go_wp2_with (first
    | (at_make; refine wpList_make_row _ rfl _ _ 24 rfl 3 i3 (.int .i64 0) 8 Yba.underlying24 hi hz0 hz1 hz2 rfl _ _ _ _ ms.length rfl rfl rfl rfl ?c1 ?c2 ?_))
  case c1 => omega
  case c2 => unfold maxLen; omega
  intro w1 hr hk hs
  have hr' : w1.heap[w.heap.size]? = some (.cells (List.replicate ms.length (Value.int .i64 0)).toArray 3 (0, 0)) := by simpa using hr
  have hs1 := arg_src HA.out hk (fun _ _ => trivial)
  go_wp2_with (first
    | (with_reducible show wpList _ _ _ (Oper.mk _ (Op.call ⟨Callee.builtin Builtin.copy, _, _⟩) _ _ _ _ :: _) _ _
       refine wpList_copy_whole rfl _ _ 24 24 rfl 3 Yba.underlying24 Yba.size3 _ ms.length _ _ w.heap.size rfl rfl _ 3 hr' ?d1 (ms.map (Value.int .i64)) ?d2 hs1 ?d4 ?_))
  case d1 => simp
  case d2 => simp
  case d4 => exact ints_oneCell _ _
  intro w2 hr2 hk2 hz3
  have hsz2 : w2.heap.size = w.heap.size + 1 := by omega
  have HW : Hid (Own (w2.alloc (.cells [.slice (some ⟨w.heap.size, 0, none⟩) ms.length ms.length, .int .i64 a1].toArray 26)) (w.heap.size + 1) w.heap.size ms a1) :=
    ⟨by rw [← hsz2]; exact heap_alloc_new w2 _, ((Kp.refl (fun _ => True) w2).alloc _).row hr2 trivial, by omega⟩
  have hkB : Kp (fun k => k < w.heap.size) w w2 := (hk.mono (fun _ _ _ => trivial)).trans (hk2.mono (fun k _ hk => by omega))
  have HB : Hid (Below w.heap.size w (w2.alloc (.cells [.slice (some ⟨w.heap.size, 0, none⟩) ms.length ms.length, .int .i64 a1].toArray 26))) := (hkB.alloc _).below (Nat.le_refl _) (fun k hk => hk)
  have HSZ : Hid ((w2.alloc (.cells [.slice (some ⟨w.heap.size, 0, none⟩) ms.length ms.length, .int .i64 a1].toArray 26)).heap.size = w.heap.size + 2) := by show _ = _; simp [hsz2]
  clear hr hr' hk hs hs1 hr2 hk2 hz3 hkB
  go_wp2
  generalize hw3 : w2.alloc (.cells [.slice (some ⟨w.heap.size, 0, none⟩) ms.length ms.length, .int .i64 a1].toArray 26) = w3 at HW HB HSZ
  clear hw3 hsz2
  go_loopw [9, 39] (fun u i wr => ∃ k : Nat, k ≤ qs.length ∧ i = .int .i64 k ∧ wr.ownsRow (w.heap.size + 2) 3 1 u k (((idx qs ms.length).take k).map (fun (c : Nat) => Value.int .i64 (c : Int))) ∧ Below (w.heap.size + 2) w3 wr) (fun _ i _ => qs.length - (intOf i).toNat)
  case atStart => exact ⟨0, Nat.zero_le _, rfl, World.ownsRow_nil _ _ _ _, Below.refl _ _⟩
  case round =>
    obtain ⟨k, hk, rfl, ho, hb⟩ := hrel
    have HO : Hid (wr.ownsRow (w.heap.size + 2) 3 1 u9 k (((idx qs ms.length).take k).map (fun (c : Nat) => Value.int .i64 (c : Int)))) := ho
    have HL : Hid (Below (w.heap.size + 2) w3 wr) := hb
    clear ho hb
    by_cases hlt : k < qs.length
    · obtain ⟨b, off, rfl, hc⟩ := HP.out (by omega)
      have hcw := hc k hlt
      have hbl := World.block_lt_of_cell? w _ hcw
      have hck : wr.cell? ⟨b, off + k, none⟩ = some (.int .u16 (qs.getD k 0)) := by
        rw [HL.out.cell (p := ⟨b, off + k, none⟩) (show b < w.heap.size + 2 by have : b < w.heap.size := hbl; omega), HB.out.cell (p := ⟨b, off + k, none⟩) hbl]; exact hcw
      have hqk := HQ.out k
      have hts := take_snoc (idx qs ms.length) k (by rw [idx_len]; exact hlt)
      rw [idx_get qs ms.length k hlt] at hts
      clear hc hcw hbl
      generalize qs.getD k 0 = x at hck hqk hts
      obtain ⟨c, hc4⟩ := Int.eq_ofNat_of_zero_le (Int.emod_nonneg x (show (ms.length : Int) ≠ 0 by omega))
      rw [hc4, Int.toNat_natCast] at hts
      have HT : Hid ((idx qs ms.length).take (k + 1) = (idx qs ms.length).take k ++ [c]) := hts
      clear hts
      obtain ⟨hx0, hx1⟩ := hqk
      go_wp2_with (first
        | (at_builtin; refine wpList_append_lies _ rfl _ _ 24 rfl (w.heap.size + 2) 3 i3 (.int .i64 0) 1 8 Yba.underlying24 hi hz0 hz1 hz2 rfl (by decide) _ k (((idx qs ms.length).take k).map (fun (c : Nat) => Value.int .i64 (c : Int))) rfl (HO.out.alloc _) ⟨wr.heap.size, 0, none⟩ 1 1 [.int .i64 (c : Int)] rfl rfl (one_new _ _ _) (one_cell _) (by omega) ?c3 ?c4 ?c5 (wr.heap.size + 1) ?c6 ?_))
      case c3 => unfold maxLen; omega
      case c4 => omega
      case c5 => have := HL.out.size; have := HSZ.out; simp; omega
      case c6 => simp
      intro g cap w5 hown hgrow hat hlt1
      have H5 : Hid (w5.ownsRow (w.heap.size + 2) 3 1 (.slice (some ⟨g, 0, none⟩) (k + 1) cap) (k + 1) (((idx qs ms.length).take (k + 1)).map (fun (c : Nat) => Value.int .i64 (c : Int))) ∧ Below (w.heap.size + 2) w3 w5) := by
        refine ⟨?_, HL.out.trans ?_⟩
        · rw [HT.out, List.map_append]; simpa using hown
        · have hsz := HL.out.size
          have hsz2 := HSZ.out
          refine (((Kp.refl (fun k => some k ≠ u9.ownBlock) wr).alloc _).trans (Kp.ofGrown hgrow)).below (by omega) (fun k hk e => ?_)
          have := (own_lt HO.out e.symm).1
          omega
      clear hown hgrow hat hlt1
      go_wp2
      go_roundw
      case rel => exact ⟨k + 1, by omega, by go_num, H5.out.1, H5.out.2⟩
      case measure => simp [intOf]; omega
    · have hks : k = qs.length := by omega
      subst hks
      rw [List.take_of_length_le (by rw [idx_len]; exact Nat.le_refl _)] at HO
      obtain ⟨ua, ucap, rfl, hu⟩ := own_nats (is := idx qs ms.length) (idx_len qs ms.length) HO.out
      have ho : Own wr (w.heap.size + 1) w.heap.size ms a1 := own_below HW.out HL.out (by omega) (by omega)
      have hbw : Below w.heap.size w wr := HB.out.trans (HL.out.mono (by omega))
      go_wp2_with fail
      have hadd := add (w.heap.size + 1) w.heap.size ms a1 ua ucap (idx qs ms.length) wr ho (by rw [idx_len]; omega) (idx_lt qs ms.length hm0) (by omega) (fun j hj => by
        obtain ⟨g, e, hg, hc⟩ := hu j (by rw [idx_len] at hj; exact hj)
        exact ⟨g, 0, e, by omega, by omega, hc⟩)
      rw [idx_len] at hadd
      refine hadd.mono ?_
      rintro e w4 ⟨rfl, ho4, hk4⟩
      have hb4 : Below w.heap.size w w4 := hbw.trans (hk4.below hbw.size (fun k hk => ⟨by omega, by omega⟩))
      have s0 : w4.cell? ⟨w.heap.size + 1, 0, none⟩ = some (.slice (some ⟨w.heap.size, 0, none⟩) ms.length ms.length) := by rw [cell_of_row w4 _ 0 _ 26 (0, 0) ho4.st, bumps_len]; rfl
      have s1 : w4.cell? ⟨w.heap.size + 1, 1, none⟩ = some (.int .i64 (wrap64 (a1 + 1))) := by rw [cell_of_row w4 _ 1 _ 26 (0, 0) ho4.st]; rfl
      have H4 : Hid (Own w4 (w.heap.size + 1) w.heap.size (bumps ms (idx qs ms.length)) (wrap64 (a1 + 1))) := ho4
      have HB4 : Hid (Below w.heap.size w w4) := hb4
      have HA4 : Hid (Arg .i64 w4 ao ms) := arg_below HA.out hb4
      have HP4 : Hid (Arg .u16 w4 po qs) := arg_below HP.out hb4
      clear ho hbw hadd ho4 hk4 hb4 hu HO HL HW HB HSZ hlt
      go_wp2
      go_loopw [12] (fun i wx => ∃ j q : Nat, j ≤ ms.length ∧ i = .int .i64 j ∧ wx = w4.drewN q) (fun i _ => ms.length - (intOf i).toNat)
      case atStart => exact ⟨0, 0, Nat.zero_le _, rfl, rfl⟩
      case round =>
        obtain ⟨j, q, hj, rfl, rfl⟩ := hrel
        by_cases hjl : j < ms.length
        · go_wp2
          go_loop [13, 80] (fun c i => ∃ t : Nat, t ≤ qs.length ∧ i = .int .i64 t ∧ c = .int .i64 ((((idx qs ms.length).take t).count j : Nat) : Int)) (fun _ i => qs.length - (intOf i).toNat)
          case atStart => exact ⟨0, Nat.zero_le _, rfl, by simp⟩
          case round =>
            obtain ⟨t, ht, rfl, rfl⟩ := hrel
            by_cases htl : t < qs.length
            · obtain ⟨b, off, rfl, hc⟩ := HP4.out (by omega)
              have hck := hc t htl
              have hqk := HQ.out t
              have hcnt := count_take (idx qs ms.length) t j (by rw [idx_len]; exact htl)
              rw [idx_get qs ms.length t htl] at hcnt
              clear hc
              generalize qs.getD t 0 = x at hck hqk hcnt
              obtain ⟨c, hc4⟩ := Int.eq_ofNat_of_zero_le (Int.emod_nonneg x (show (ms.length : Int) ≠ 0 by omega))
              rw [hc4, Int.toNat_natCast] at hcnt
              have HC : Hid (((idx qs ms.length).take (t + 1)).count j = ((idx qs ms.length).take t).count j + if c = j then 1 else 0) := hcnt
              have hcb : ((idx qs ms.length).take t).count j ≤ 1024 := by
                have h1 := List.count_le_length (a := j) (l := (idx qs ms.length).take t)
                have h2 := List.length_take_le t (idx qs ms.length)
                omega
              clear hcnt
              generalize ((idx qs ms.length).take t).count j = n at HC hcb
              obtain ⟨hx0, hx1⟩ := hqk
              by_cases hcj : c = j
              · subst hcj
                go_wp2
                go_round
                case rel => exact ⟨t + 1, by omega, by go_num, by rw [HC.out, if_pos rfl]; go_num⟩
                case measure => simp [intOf]; omega
              · have hcjb : ((c : Int) == (j : Int)) = false := beq_eq_false_iff_ne.2 (by omega)
                go_wp2
                go_round
                case rel => exact ⟨t + 1, by omega, by go_num, by rw [HC.out, if_neg hcj]; go_num⟩
                case measure => simp [intOf]; omega
            · have hte : t = qs.length := by omega
              subst hte
              have et : (idx qs ms.length).take qs.length = idx qs ms.length := List.take_of_length_le (by rw [idx_len]; exact Nat.le_refl _)
              rw [et]
              have hM := cell_ints H4.out.ct (j := j) (by rw [bumps_len]; exact hjl)
              rw [bumps_get _ _ _ hjl (HMB.out j)] at hM
              obtain ⟨b, off, rfl, hc⟩ := HA4.out (by omega)
              have hA := hc j hjl
              clear hc et
              generalize (idx qs ms.length).count j = n at hM
              generalize ms.getD j 0 = y at hM hA
              go_wp2
              go_quiet (fail)
              go_wp2
              go_roundw
              case rel => exact ⟨j + 1, _, by omega, by go_num, rfl⟩
              case measure => simp [intOf]; omega
        · go_wp2
          go_ret
          exact ⟨rfl, ⟨HB4.out.os, HB4.out.tape, HB4.out.output, HB4.out.size, HB4.out.block⟩⟩

set_option maxRecDepth 100000 in
set_option maxHeartbeats 2000000 in
theorem law_empty (ao po : Option Addr) (cap0 len2 cap2 : Nat) (a1 : Int) (w : World) (hq : len2 ≤ 1024) :
    Calls Yba.prog 4 #[.slice ao 0 cap0, .int .i64 a1, .slice po len2 cap2] w fun e w' => e = .returned (.bool true) ∧ Below w.heap.size w w' := by
  have b2 : ¬ (1024 : Int) < (len2 : Int) := by omega
  obtain ⟨i3, hi, hz0, hz1, hz2⟩ := info_parts Yba.info3
  go_enter Yba.func4, Yba.ntmps4
  go_wp2_with (first
    | (at_make; refine wpList_make_row _ rfl _ _ 24 rfl 3 i3 (.int .i64 0) 8 Yba.underlying24 hi hz0 hz1 hz2 rfl _ _ _ _ 0 rfl rfl rfl rfl ?c1 ?c2 ?_))
  intro w1 hr hk hs
  have hr' : w1.heap[w.heap.size]? = some (.cells (List.replicate 0 (Value.int .i64 0)).toArray 3 (0, 0)) := by simpa using hr
  go_wp2_with (first
    | (with_reducible show wpList _ _ _ (Oper.mk _ (Op.call ⟨Callee.builtin Builtin.copy, _, _⟩) _ _ _ _ :: _) _ _
       refine wpList_copy_whole rfl _ _ 24 24 rfl 3 Yba.underlying24 Yba.size3 _ 0 _ _ w.heap.size rfl rfl _ 3 hr' ?d1 [] ?d2 ?d3 ?d4 ?_))
  case d1 => simp
  case d2 => simp
  case d3 => intro h; omega
  case d4 => intro v hv; simp at hv
  intro w2 hr2 hk2 hz3
  have hsz2 : w2.heap.size = w.heap.size + 1 := by omega
  have HW : Hid (Own (w2.alloc (.cells [.slice (some ⟨w.heap.size, 0, none⟩) 0 0, .int .i64 a1].toArray 26)) (w.heap.size + 1) w.heap.size [] a1) :=
    ⟨by rw [← hsz2]; exact heap_alloc_new w2 _, ((Kp.refl (fun _ => True) w2).alloc _).row hr2 trivial, by omega⟩
  have hkB : Kp (fun k => k < w.heap.size) w w2 := (hk.mono (fun _ _ _ => trivial)).trans (hk2.mono (fun k _ hk => by omega))
  have HB : Hid (Below w.heap.size w (w2.alloc (.cells [.slice (some ⟨w.heap.size, 0, none⟩) 0 0, .int .i64 a1].toArray 26))) := (hkB.alloc _).below (Nat.le_refl _) (fun k hk => hk)
  clear hr hr' hk hs hr2 hk2 hz3 hkB
  go_wp2_with fail
  refine (add (w.heap.size + 1) w.heap.size [] a1 none 0 [] _ HW.out (by simp) (by simp) (by simp) (fun j hj => absurd hj (by simp))).mono ?_
  rintro e w4 ⟨rfl, ho4, hk4⟩
  have hb4 : Below w.heap.size w w4 := HB.out.trans (hk4.below HB.out.size (fun k hk => ⟨by omega, by omega⟩))
  have s0 : w4.cell? ⟨w.heap.size + 1, 0, none⟩ = some (.slice (some ⟨w.heap.size, 0, none⟩) 0 0) := by rw [cell_of_row w4 _ 0 _ 26 (0, 0) ho4.st]; rfl
  have s1 : w4.cell? ⟨w.heap.size + 1, 1, none⟩ = some (.int .i64 (wrap64 (a1 + 1))) := by rw [cell_of_row w4 _ 1 _ 26 (0, 0) ho4.st]; rfl
  have HB4 : Hid (Below w.heap.size w w4) := hb4
  clear hb4 ho4 hk4 HW HB hsz2
  go_wp2
  go_loop [12] (fun i => i = .int .i64 0) (fun _ => 0)
  case atStart => rfl
  case round =>
    subst hrel
    go_wp2
    go_ret
    exact ⟨rfl, HB4.out⟩
end Go.Proofs.Ybulkawjg.On
