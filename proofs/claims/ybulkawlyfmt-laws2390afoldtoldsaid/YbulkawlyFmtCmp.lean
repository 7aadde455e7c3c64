import Derived.Test.YbulkawlyFmtLeaf
import Derived.Test.YbulkawlyFmtShelf
namespace Go.Proofs.YbulkawlyFmt.Cm
open Go.ChangeShapes Go.WideShapes Go.ChangeAt Go.RowKit Go.Proofs.YbulkawlyFmt.Lw Go.Proofs.YbulkawlyFmt.Pl Go.Proofs.YbulkawlyFmt.Lf

theorem twelve {a : Nat} (ha : a < 12) : a = 0 ∨ a = 1 ∨ a = 2 ∨ a = 3 ∨ a = 4 ∨ a = 5 ∨ a = 6 ∨ a = 7 ∨ a = 8 ∨ a = 9 ∨ a = 10 ∨ a = 11 := by omega

theorem parse_ok (a : Nat) (ha : a < 12) (h : isI a = true) : Lib.parseIntB 64 (tx a) = .ok (num a) := by
  rcases twelve ha with rfl | rfl | rfl | rfl | rfl | rfl | rfl | rfl | rfl | rfl | rfl | rfl
  all_goals first | (exact absurd h (by decide)) | decide +kernel
theorem parse_bad (a : Nat) (ha : a < 12) (h : isI a = false) : Lib.parseIntB 64 (tx a) = Lib.parseIntB 64 [] := by
  rcases twelve ha with rfl | rfl | rfl | rfl | rfl | rfl | rfl | rfl | rfl | rfl | rfl | rfl
  all_goals first | (exact absurd h (by decide)) | decide +kernel
theorem txt_size (a : Nat) : (txt a).size ≤ 2 := by
  unfold txt tx
  split <;> decide

theorem kp_bytes (w : World) (e : TypeId) (s : ByteArray) : Kp (fun _ => True) w (Lib.bytesWorld w e s) :=
  ⟨rfl, rfl, rfl, by rw [Lib.bytesWorld_size]; omega, fun k hk _ => Lib.bytesWorld_at_old w e s k hk⟩

set_option maxRecDepth 100000 in
theorem integer_q (s : ByteArray) (w : World) : Calls Ybaf.prog 15 #[.agg #[.string s, .bool true]] w fun e w' => e = .returned (.tuple #[.int .i64 0, .bool false]) ∧ Kp (fun _ => True) w w' := by
  go_enter Ybaf.func15, Ybaf.ntmps15
  go_wp2
  go_ret2
  exact ⟨rfl, (Kp.refl _ _).alloc _⟩

set_option maxRecDepth 100000 in
theorem integer_ok (a : Nat) (ha : a < 12) (h : isI a = true) (w : World) : Calls Ybaf.prog 15 #[.agg #[.string (txt a), .bool false]] w fun e w' => e = .returned (.tuple #[.int .i64 (num a), .bool true]) ∧ Kp (fun _ => True) w w' := by
  have hp : Lib.parseIntB 64 (txt a).data.toList = .ok (num a) := by have := parse_ok a ha h; simpa [txt] using this
  have hs := txt_size a
  generalize txt a = s at hp hs
  generalize num a = v at hp
  have HP : Hid (Lib.parseIntB 64 s.data.toList = .ok v) := hp
  clear hp h
  go_enter Ybaf.func15, Ybaf.ntmps15
  go_wp2_with fail
  refine (Ybaf.strconv_ParseInt_10_at64_ok s (by omega) v HP.out _).mono ?_
  rintro e w1 ⟨rfl, hw⟩
  have hk : Hid (Kp (fun _ => True) w w1) := by
    rcases hw with rfl | ⟨t, rfl⟩
    · exact (Kp.refl _ _).alloc _
    · exact ((Kp.refl _ _).alloc _).trans (kp_bytes _ _ _)
  clear hw
  go_wp2
  go_quiet (fail)
  go_wp2
  go_ret2
  exact ⟨rfl, hk.out.drewN _⟩

set_option maxRecDepth 100000 in
theorem integer_bad (a : Nat) (ha : a < 12) (h : isI a = false) (ev : Value) (w : World) (hv : w.cell? ⟨1, 0, none⟩ = some ev) (hev : ev = .nilIface ∨ ∃ te pe, ev = .iface te pe) :
    Calls Ybaf.prog 15 #[.agg #[.string (txt a), .bool false]] w fun e w' => e = .returned (.tuple #[.int .i64 0, .bool false]) ∧ Kp (fun _ => True) w w' := by
  have hp : Lib.parseIntB 64 (txt a).data.toList = Lib.parseIntB 64 [] := by have := parse_bad a ha h; simpa [txt] using this
  have hs := txt_size a
  generalize txt a = s at hp hs
  have HP : Hid (Lib.parseIntB 64 s.data.toList = Lib.parseIntB 64 []) := hp
  have HV : Hid (w.cell? ⟨1, 0, none⟩ = some ev) := hv
  have HE : Hid (ev = .nilIface ∨ ∃ te pe, ev = .iface te pe) := hev
  clear hp h hv hev
  go_enter Ybaf.func15, Ybaf.ntmps15
  go_wp2_with fail
  refine (Ybaf.strconv_ParseInt_10_at64_bad s (by omega) HP.out ev _ (cell_kp ((Kp.refl (fun _ => True) w).alloc _) HV.out trivial) HE.out).mono ?_
  rintro e w1 ⟨N, rfl, hN, hcell, hb⟩
  have hk : Hid (Kp (fun _ => True) w w1) := ((Kp.refl _ _).alloc _).trans ((Kp.ofBelow hb).mono (fun k hk _ => hk))
  clear hN hcell hb
  go_wp2
  go_quiet (fail)
  go_wp2
  go_ret2
  exact ⟨rfl, hk.out.drewN _⟩

theorem integer (a : Nat) (q : Bool) (ha : a < 12) (ev : Value) (w : World) (hv : w.cell? ⟨1, 0, none⟩ = some ev) (hev : ev = .nilIface ∨ ∃ te pe, ev = .iface te pe) :
    Calls Ybaf.prog 15 #[.agg #[.string (txt a), .bool q]] w fun e w' => e = .returned (.tuple #[.int .i64 (if (isI a && !q) = true then num a else 0), .bool (isI a && !q)]) ∧ Kp (fun _ => True) w w' := by
  cases q with
  | true => refine (integer_q _ _).mono fun e w' ⟨h1, h2⟩ => ⟨by rw [h1]; simp, h2⟩
  | false =>
    cases h : isI a with
    | true => refine (integer_ok a ha h _).mono fun e w' ⟨h1, h2⟩ => ⟨by rw [h1]; simp, h2⟩
    | false => refine (integer_bad a ha h ev _ hv hev).mono fun e w' ⟨h1, h2⟩ => ⟨by rw [h1]; simp, h2⟩

theorem oxt0 : oxt 0 = ⟨#[61]⟩ := rfl
theorem oxt1 : oxt 1 = ⟨#[33, 61]⟩ := rfl
theorem oxt2 : oxt 2 = ⟨#[60]⟩ := rfl
theorem oxt3 : oxt 3 = ⟨#[62]⟩ := rfl
theorem oxt4 : oxt 4 = ⟨#[60, 61]⟩ := rfl
theorem oxt5 : oxt 5 = ⟨#[62, 61]⟩ := rfl
theorem six {o : Nat} (ho : o < 6) : o = 0 ∨ o = 1 ∨ o = 2 ∨ o = 3 ∨ o = 4 ∨ o = 5 := by omega

set_option maxRecDepth 100000 in
set_option maxHeartbeats 4000000 in
theorem compare_core (o : Nat) (ho : o < 6) (s t : ByteArray) (qa qb : Bool) (na nb c0 : Int) (ia ib : Bool) (w : World) (hc : Lib.compareBytes s.data.toList t.data.toList = c0)
    (hA : ∀ w', Kp (fun _ => True) w w' → Calls Ybaf.prog 15 #[.agg #[.string s, .bool qa]] w' fun e w'' => e = .returned (.tuple #[.int .i64 na, .bool ia]) ∧ Kp (fun _ => True) w' w'')
    (hB : ∀ w', Kp (fun _ => True) w w' → Calls Ybaf.prog 15 #[.agg #[.string t, .bool qb]] w' fun e w'' => e = .returned (.tuple #[.int .i64 nb, .bool ib]) ∧ Kp (fun _ => True) w' w'') :
    Calls Ybaf.prog 11 #[.string (oxt o), .agg #[.string s, .bool qa], .agg #[.string t, .bool qb]] w fun e w' => e = .returned (.bool (ans o (if (ia && ib) = true then cmpi na nb else c0))) ∧ Kp (fun _ => True) w w' := by
  have HA : Hid (∀ w', Kp (fun _ => True) w w' → Calls Ybaf.prog 15 #[.agg #[.string s, .bool qa]] w' fun e w'' => e = .returned (.tuple #[.int .i64 na, .bool ia]) ∧ Kp (fun _ => True) w' w'') := hA
  have HB : Hid (∀ w', Kp (fun _ => True) w w' → Calls Ybaf.prog 15 #[.agg #[.string t, .bool qb]] w' fun e w'' => e = .returned (.tuple #[.int .i64 nb, .bool ib]) ∧ Kp (fun _ => True) w' w'') := hB
  have HC : Hid (Lib.compareBytes s.data.toList t.data.toList = c0) := hc
  clear hA hB hc
  have W0 : Hid (Kp (fun _ => True) w ((w.alloc (.cells #[.string s, .bool qa] 28)).alloc (.cells #[.string t, .bool qb] 28))) := ((Kp.refl _ _).alloc _).alloc _
  cases ia with
  | false =>
    rcases six ho with rfl | rfl | rfl | rfl | rfl | rfl
    all_goals
      first | rw [oxt0] | rw [oxt1] | rw [oxt2] | rw [oxt3] | rw [oxt4] | rw [oxt5]
      go_enter Ybaf.func11, Ybaf.ntmps11
      go_wp2_with fail
      refine (Ybaf.strings_Compare s t _).mono ?_
      rintro e w1 ⟨rfl, rfl⟩
      rw [HC.out]
      go_wp2_with fail
      refine (HA.out _ W0.out).mono ?_
      rintro e w1 ⟨rfl, hk⟩
      have HK : Hid (Kp (fun _ => True) w w1) := W0.out.trans hk
      clear hk
      go_wp2
      go_ret
      exact ⟨by simp [ans], HK.out⟩
  | true =>
    cases ib with
    | false =>
      rcases six ho with rfl | rfl | rfl | rfl | rfl | rfl
      all_goals
        first | rw [oxt0] | rw [oxt1] | rw [oxt2] | rw [oxt3] | rw [oxt4] | rw [oxt5]
        go_enter Ybaf.func11, Ybaf.ntmps11
        go_wp2_with fail
        refine (Ybaf.strings_Compare s t _).mono ?_
        rintro e w1 ⟨rfl, rfl⟩
        rw [HC.out]
        go_wp2_with fail
        refine (HA.out _ W0.out).mono ?_
        rintro e w1 ⟨rfl, hk⟩
        have HK : Hid (Kp (fun _ => True) w w1) := W0.out.trans hk
        have hh := hk.row (heap_alloc_new (w.alloc (.cells #[.string s, .bool qa] 28)) (.cells #[.string t, .bool qb] 28)) trivial
        rw [show (w.alloc (.cells #[.string s, .bool qa] 28)).heap.size = w.heap.size + 1 by simp] at hh
        have d0 : w1.cell? ⟨w.heap.size + 1, 0, none⟩ = some (.string t) := by rw [cell_of_row w1 _ 0 _ 28 (0, 0) hh]; rfl
        have d1 : w1.cell? ⟨w.heap.size + 1, 1, none⟩ = some (.bool qb) := by rw [cell_of_row w1 _ 1 _ 28 (0, 0) hh]; rfl
        clear hk hh
        go_wp2_with fail
        refine (HB.out _ HK.out).mono ?_
        rintro e w2 ⟨rfl, hk⟩
        have HK2 : Hid (Kp (fun _ => True) w w2) := HK.out.trans hk
        clear hk
        go_wp2
        go_ret
        exact ⟨by simp [ans], HK2.out⟩
    | true =>
      have hcase : (na < nb ∧ Hid (cmpi na nb = -1)) ∨ ((¬ na < nb ∧ nb < na) ∧ Hid (cmpi na nb = 1)) ∨ ((¬ na < nb ∧ ¬ nb < na) ∧ Hid (cmpi na nb = 0)) := by
        unfold cmpi Hid
        by_cases h1 : na < nb
        · exact .inl ⟨h1, by rw [if_pos h1]⟩
        · by_cases h2 : nb < na
          · exact .inr (.inl ⟨⟨h1, h2⟩, by rw [if_neg h1, if_pos h2]⟩)
          · exact .inr (.inr ⟨⟨h1, h2⟩, by rw [if_neg h1, if_neg h2]⟩)
      rcases six ho with rfl | rfl | rfl | rfl | rfl | rfl
      all_goals
        rcases hcase with ⟨h1, HI⟩ | ⟨⟨h1, h2⟩, HI⟩ | ⟨⟨h1, h2⟩, HI⟩
        all_goals
          first | rw [oxt0] | rw [oxt1] | rw [oxt2] | rw [oxt3] | rw [oxt4] | rw [oxt5]
          go_enter Ybaf.func11, Ybaf.ntmps11
          go_wp2_with fail
          refine (Ybaf.strings_Compare s t _).mono ?_
          rintro e w1 ⟨rfl, rfl⟩
          rw [HC.out]
          go_wp2_with fail
          refine (HA.out _ W0.out).mono ?_
          rintro e w1 ⟨rfl, hk⟩
          have HK : Hid (Kp (fun _ => True) w w1) := W0.out.trans hk
          have hh := hk.row (heap_alloc_new (w.alloc (.cells #[.string s, .bool qa] 28)) (.cells #[.string t, .bool qb] 28)) trivial
          rw [show (w.alloc (.cells #[.string s, .bool qa] 28)).heap.size = w.heap.size + 1 by simp] at hh
          have d0 : w1.cell? ⟨w.heap.size + 1, 0, none⟩ = some (.string t) := by rw [cell_of_row w1 _ 0 _ 28 (0, 0) hh]; rfl
          have d1 : w1.cell? ⟨w.heap.size + 1, 1, none⟩ = some (.bool qb) := by rw [cell_of_row w1 _ 1 _ 28 (0, 0) hh]; rfl
          clear hk hh
          go_wp2_with fail
          refine (HB.out _ HK.out).mono ?_
          rintro e w2 ⟨rfl, hk⟩
          have HK2 : Hid (Kp (fun _ => True) w w2) := HK.out.trans hk
          clear hk
          go_wp2
          go_ret
          exact ⟨by rw [HI.out]; rfl, HK2.out⟩
end Go.Proofs.YbulkawlyFmt.Cm
