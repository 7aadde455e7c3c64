import Derived.Test.YbulkawhcDoorCh
namespace Go.Proofs.YbulkawhcDoor.La
open Go.ChangeShapes Go.WideShapes Go.ChangeAt Go.RowKit Go.Maps Go.Proofs.YbulkawhcDoor.Lw Go.Proofs.YbulkawhcDoor Go.Proofs.YbulkawhcDoor.Pl Go.Proofs.YbulkawhcDoor.Se Go.Proofs.YbulkawhcDoor.De Go.Proofs.YbulkawhcDoor.Me Go.Proofs.YbulkawhcDoor.Po Go.Proofs.YbulkawhcDoor.Ch
theorem kp_of_below {w w1 : World} (h : Below w.heap.size w w1) : Kp (fun _ => True) w w1 := (Kp.ofBelow h).mono (fun _ hk _ => hk)
theorem below_of_kp {w w1 : World} (h : Kp (fun _ => True) w w1) : Below w.heap.size w w1 := h.below (Nat.le_refl _) (fun _ _ => trivial)
theorem mems_le (xs : List Int) (h : xs.length ≤ 1024) : (mems xs xs.length).length ≤ 1024 := Nat.le_trans (mems_len xs _) h
def two {α : Type} (a b : α) : Nat → α
  | 0 => a
  | _ => b
/-- What changedMembers leaves, for the law. -/
def Res (w0 w' : World) (Sa Sb c : Nat) (ma mb : List Mem) : Prop :=
  Kp (fun _ => True) w0 w' ∧ (∃ G, w'.cell? ⟨Sa, 4 + c, none⟩ = some (.slice (some ⟨G, 0, none⟩) (3 + ma.length) (3 + ma.length)) ∧ SB w' (some ⟨G, 0, none⟩) (3 + ma.length) (expB ma mb)) ∧
  (∃ G, w'.cell? ⟨Sb, 4 + c, none⟩ = some (.slice (some ⟨G, 0, none⟩) (3 + mb.length) (3 + mb.length)) ∧ SB w' (some ⟨G, 0, none⟩) (3 + mb.length) (expB mb ma))
theorem sb_of_row {w : World} {G n : Nat} {f : Nat → Bool} (h : w.heap[G]? = some (.cells (rowF n (fun i => .bool (f i))).toArray 4 (0, 0))) : SB w (some ⟨G, 0, none⟩) n f := fun i hi => ⟨G, rfl, by
  rw [cell_of_row w G i _ 4 (0, 0) h]; simpa using rowF_get n _ i hi⟩
theorem res_of {w0 w w' : World} {Sa Sb Pa Pb c : Nat} {ma mb : List Mem} (h : OI w0 w (two Sa Sb) (two Pa Pb) c (two ma mb) 2 w') : Res w0 w' Sa Sb c ma mb := by
  obtain ⟨v0, a1, a2⟩ := h.2.2 0 (by omega)
  obtain ⟨G0, rfl, g0⟩ := a2 (by omega)
  obtain ⟨v1, b1, b2⟩ := h.2.2 1 (by omega)
  obtain ⟨G1, rfl, g1⟩ := b2 (by omega)
  exact ⟨h.1, ⟨G0, (sbk_cells a1).2.1, sb_of_row g0.2.2.2⟩, ⟨G1, (sbk_cells b1).2.1, sb_of_row g1.2.2.2⟩⟩
theorem sides {w4 w5 : World} {c Pa Ea eca La Ma Pb Eb ecb Lb Mb Sa Sb : Nat} {Da Db : DataW Unit} {ma mb : List Mem} (hc : c < 3) (pa : PQ w4 Pa (1 + c * 23) Ea eca La Ma Da ma) (pb : PQ w4 Pb (1 + c * 23) Eb ecb Lb Mb Db mb) (ga : Pl.Good ma) (gb : Pl.Good mb) (la : ma.length ≤ 1024) (lb : mb.length ≤ 1024)
    (hk : Kp (fun _ => True) w4 w5) (ha : w4.heap.size ≤ Sa) (hb : w4.heap.size ≤ Sb) (hne : Sa ≠ Sb) (sa : ∃ v, SBk w5 Sa Pa c v) (sb : ∃ v, SBk w5 Sb Pb c v) :
    Calls Ybad.prog 7 #[.int .i64 (c : Int), .pointer (some ⟨Sa, 0, none⟩), .pointer (some ⟨Sb, 0, none⟩)] w5 fun e w' => (∃ v, e = .returned v) ∧ Res w4 w' Sa Sb c ma mb := by
  have h2 : ∀ s, s < 2 → s = 0 ∨ s = 1 := fun s hs => by omega
  have := changed c hc (two Sa Sb) (two Pa Pb) (two Ea Eb) (two eca ecb) (two La Lb) (two Ma Mb) (two Da Db) (two ma mb) w4 w5
    (fun s hs => by rcases h2 s hs with rfl | rfl; exact pa; exact pb) (fun s hs => by rcases h2 s hs with rfl | rfl; exact ga; exact gb) (fun s hs => by rcases h2 s hs with rfl | rfl; exact la; exact lb)
    hk (fun s hs => by rcases h2 s hs with rfl | rfl; exact ha; exact hb) hne (fun s hs => by rcases h2 s hs with rfl | rfl; exact sa; exact sb)
  exact this.mono (fun e w' h => ⟨h.1, res_of h.2⟩)

theorem boxes (w4 : World) (la lb : List Value) {Pa Pb c : Nat} (hc : c < 3) (a0 : la[0]? = some (.pointer (some ⟨Pa, 0, none⟩))) (a4 : (la[4]?).isSome = true ∧ (la[5]?).isSome = true ∧ (la[6]?).isSome = true)
    (b0 : lb[0]? = some (.pointer (some ⟨Pb, 0, none⟩))) (b4 : (lb[4]?).isSome = true ∧ (lb[5]?).isSome = true ∧ (lb[6]?).isSome = true) :
    Kp (fun _ => True) w4 ((w4.alloc (.cells la.toArray 48)).alloc (.cells lb.toArray 48)) ∧ (∃ v, SBk ((w4.alloc (.cells la.toArray 48)).alloc (.cells lb.toArray 48)) w4.heap.size Pa c v) ∧
    (∃ v, SBk ((w4.alloc (.cells la.toArray 48)).alloc (.cells lb.toArray 48)) (w4.heap.size + 1) Pb c v) := by
  have three : ∀ l : List Value, ((l[4]?).isSome = true ∧ (l[5]?).isSome = true ∧ (l[6]?).isSome = true) → ∃ v, l[4 + c]? = some v := fun l h => by
    have h3 : c = 0 ∨ c = 1 ∨ c = 2 := by omega
    rcases h3 with rfl | rfl | rfl
    · exact Option.isSome_iff_exists.1 h.1
    · exact Option.isSome_iff_exists.1 h.2.1
    · exact Option.isSome_iff_exists.1 h.2.2
  obtain ⟨va, ea⟩ := three la a4
  obtain ⟨vb, eb⟩ := three lb b4
  have h2 := heap_alloc_new (w4.alloc (.cells la.toArray 48)) (.cells lb.toArray 48)
  rw [show (w4.alloc (.cells la.toArray 48)).heap.size = w4.heap.size + 1 by simp] at h2
  exact ⟨((Kp.refl _ _).alloc _).alloc _, ⟨va, la, ((Kp.refl (fun _ => True) _).alloc _).row (heap_alloc_new w4 _) trivial, a0, ea⟩, ⟨vb, lb, h2, b0, eb⟩⟩

theorem keep2 {w w' : World} (hk : Kp (fun _ => True) w w') {p1 p2 : Addr} {x1 x2 : Value} (h : w.cell? p1 = some x1 ∧ w.cell? p2 = some x2) : w'.cell? p1 = some x1 ∧ w'.cell? p2 = some x2 :=
  ⟨cell_kp hk h.1 trivial, cell_kp hk h.2 trivial⟩

set_option maxRecDepth 100000 in
set_option maxHeartbeats 8000000 in
theorem law (sel : Int) (h0 : 0 ≤ sel) (h1 : sel ≤ 255) (ao bo : Option Addr) (ca cb : Nat) (xs ys : List Int) (w : World) (hx : ArgI w ao xs) (hy : ArgI w bo ys) (bx : ∀ i, 0 ≤ xs.getD i 0 ∧ xs.getD i 0 ≤ 255) (by' : ∀ i, 0 ≤ ys.getD i 0 ∧ ys.getD i 0 ≤ 255) :
    Calls Ybad.prog 3 #[.int .u8 sel, .slice ao xs.length ca, .slice bo ys.length cb] w fun e w' => e = .returned (.bool true) ∧ Below w.heap.size w w' := by
  have HX : Hid (ArgI w ao xs) := hx
  have HY : Hid (ArgI w bo ys) := hy
  have BX : Hid (∀ i, 0 ≤ xs.getD i 0 ∧ xs.getD i 0 ≤ 255) := bx
  have BY : Hid (∀ i, 0 ≤ ys.getD i 0 ∧ ys.getD i 0 ≤ 255) := by'
  clear hx hy bx by'
  go_enter Ybad.func3, Ybad.ntmps3
  by_cases hlx : xs.length ≤ 1024
  · by_cases hly : ys.length ≤ 1024
    · obtain ⟨c, hc⟩ : ∃ c : Nat, sel.tmod 3 = (c : Int) := by
        rw [Int.tmod_eq_emod_of_nonneg h0]
        exact ⟨(sel % 3).toNat, by have := Int.emod_nonneg sel (show (3 : Int) ≠ 0 by omega); omega⟩
      have hc3 : c < 3 := by
        have h := Int.emod_lt_of_pos sel (show (0 : Int) < 3 by omega)
        rw [Int.tmod_eq_emod_of_nonneg h0] at hc
        omega
      have hc2 : sel % 3 = (c : Int) := by rw [← hc, Int.tmod_eq_emod_of_nonneg h0]
      have hx' : (xs.length : Int) ≤ 1024 := by omega
      have hy' : (ys.length : Int) ≤ 1024 := by omega
      obtain ⟨ma, hma⟩ : ∃ m, m = mems xs xs.length := ⟨_, rfl⟩
      obtain ⟨mb, hmb⟩ : ∃ m, m = mems ys ys.length := ⟨_, rfl⟩
      have GA : Hid (Pl.Good ma ∧ ma.length ≤ 1024) := by rw [hma]; exact ⟨mems_good _ _, mems_le _ hlx⟩
      have GB : Hid (Pl.Good mb ∧ mb.length ≤ 1024) := by rw [hmb]; exact ⟨mems_good _ _, mems_le _ hly⟩
      have HC1 : Hid (Calls Ybad.prog 5 #[.slice ao xs.length ca] w fun e w' => ∃ tv, e = .returned tv ∧ MS w w' tv ma) := by rw [hma]; exact members ao ca xs w HX.out hlx BX.out
      have HC2 : Hid (∀ w1, Below w.heap.size w w1 → Calls Ybad.prog 5 #[.slice bo ys.length cb] w1 fun e w' => ∃ tv, e = .returned tv ∧ MS w1 w' tv mb) := fun w1 hb => by rw [hmb]; exact members bo cb ys w1 (argI_below HY.out hb) hly BY.out
      clear hma hmb HX HY BX BY
      go_upto_region 6 with (first
        | (go_at_call 5; refine HC1.out.mono ?_; rintro e w1 ⟨tv, rfl, hms⟩; obtain ⟨ua, uc, rfl, hsr⟩ := sr_of_ms hms; have K1 : Hid (Kp (fun _ => True) w w1) := kp_of_below hms.bel; have HS1 : Hid (SR w1 ua ma) := hsr; have HC3 : Hid (Calls Ybad.prog 5 #[.slice bo ys.length cb] w1 fun e w' => ∃ tv, e = .returned tv ∧ MS w1 w' tv mb) := HC2.out w1 hms.bel; clear HC1 HC2 hms hsr)
        | (go_at_call 5; refine HC3.out.mono ?_; rintro e w2 ⟨tv, rfl, hms⟩; obtain ⟨ub, ud, rfl, hsr⟩ := sr_of_ms hms; have K2 : Hid (Kp (fun _ => True) w w2) := K1.out.trans (kp_of_below hms.bel); have HS2 : Hid (SR w2 ub mb) := hsr; have HA2 : Hid (SR w2 ua ma) := sr_kp HS1.out (kp_of_below hms.bel); have HC4 : Hid (Calls Ybad.prog 6 #[.int .i64 (c : Int), .slice ua ma.length uc] w2 _) := policy c hc3 ua uc ma w2 HA2.out GA.out.2 GA.out.1; clear HC3 HS1 K1 hms hsr)
        | (go_at_call 6; refine HC4.out.mono ?_; rintro e w3 ⟨Pa, Ea, eca, La, Ma, Da, rfl, hpa, hk3⟩; have K3 : Hid (Kp (fun _ => True) w w3) := K2.out.trans hk3; have HPA : Hid (PQ w3 Pa (1 + c * 23) Ea eca La Ma Da ma) := hpa; have HA3 : Hid (SR w3 ua ma) := sr_kp HA2.out hk3; have HB3 : Hid (SR w3 ub mb) := sr_kp HS2.out hk3; have HC5 : Hid (Calls Ybad.prog 6 #[.int .i64 (c : Int), .slice ub mb.length ud] w3 _) := policy c hc3 ub ud mb w3 HB3.out GB.out.2 GB.out.1; clear HC4 HS2 HA2 K2 hpa hk3)
        | (go_at_call 6; refine HC5.out.mono ?_; rintro e w4 ⟨Pb, Eb, ecb, Lb, Mb, Db, rfl, hpb, hk4⟩; have K4 : Hid (Kp (fun _ => True) w w4) := K3.out.trans hk4; have HPA4 : Hid (PQ w4 Pa (1 + c * 23) Ea eca La Ma Da ma) := pq_kp HPA.out hk4; have HPB4 : Hid (PQ w4 Pb (1 + c * 23) Eb ecb Lb Mb Db mb) := hpb; have HA4 : Hid (SR w4 ua ma) := sr_kp HA3.out hk4; have HB4 : Hid (SR w4 ub mb) := sr_kp HB3.out hk4; clear HC5 HPA HA3 HB3 K3 hpb hk4))
      go_upto_region 9 with (go_at_call 7; refine (sides hc3 HPA4.out HPB4.out GA.out.1 GB.out.1 GA.out.2 GB.out.2 (boxes w4 _ _ hc3 rfl ⟨rfl, rfl, rfl⟩ rfl ⟨rfl, rfl, rfl⟩).1 (Nat.le_refl _) (Nat.le_succ _) (by omega) (boxes w4 _ _ hc3 rfl ⟨rfl, rfl, rfl⟩ rfl ⟨rfl, rfl, rfl⟩).2.1 (boxes w4 _ _ hc3 rfl ⟨rfl, rfl, rfl⟩ rfl ⟨rfl, rfl, rfl⟩).2.2).mono ?_; rintro e w6 ⟨⟨v, rfl⟩, hres⟩)
      obtain ⟨hk6, ⟨Ga, ca4, sa⟩, ⟨Gb, cb4, sb⟩⟩ := hres
      have K6 : Hid (Kp (fun _ => True) w w6) := K4.out.trans hk6
      have HA6 : Hid (SR w6 ua ma) := sr_kp HA4.out hk6
      have HB6 : Hid (SR w6 ub mb) := sr_kp HB4.out hk6
      have SA : Hid (SB w6 (some ⟨Ga, 0, none⟩) (3 + ma.length) (expB ma mb)) := sa
      have SB' : Hid (SB w6 (some ⟨Gb, 0, none⟩) (3 + mb.length) (expB mb ma)) := sb
      clear hk6 K4 HA4 HB4 sa sb HPA4 HPB4
      have cb4' : w6.cell? ⟨w4.heap.size + 1, 4 + c, none⟩ = some (.slice (some ⟨Gb, 0, none⟩) (3 + mb.length) (3 + mb.length)) := cb4
      have hS6 := And.intro ca4 cb4'
      have HS6 : Hid (w6.cell? ⟨w4.heap.size, 4 + c, none⟩ = some (.slice (some ⟨Ga, 0, none⟩) (3 + ma.length) (3 + ma.length)) ∧ w6.cell? ⟨w4.heap.size + 1, 4 + c, none⟩ = some (.slice (some ⟨Gb, 0, none⟩) (3 + mb.length) (3 + mb.length))) := hS6
      clear ca4 cb4 cb4' hS6
      generalize w4.heap.size + 1 = Sb at *
      generalize w4.heap.size = Sa at *
      have hc' : (c : Int) < 3 := by omega
      refine wp_region_held_drew (S := fun w' => w'.cell? ⟨Sa, 4 + c, none⟩ = some (.slice (some ⟨Ga, 0, none⟩) (3 + ma.length) (3 + ma.length)) ∧ w'.cell? ⟨Sb, 4 + c, none⟩ = some (.slice (some ⟨Gb, 0, none⟩) (3 + mb.length) (3 + mb.length))) (by kernel_rfl) HS6.out (fun hS => ?_)
      have kd : Hid (Kp (fun _ => True) w6 w6.drew) := (Kp.refl _ _).drew
      generalize w6.drew = wy at *
      refine wpAnyH_take (i := 0) (v := ?_) rfl (by kernel_rfl) (by kernel_rfl) (by kernel_rfl) (fun _ _ _ h => h) (Or.inl ⟨by rfl, ?_⟩) hS ?_
      rotate_left
      · intro wq hwq
        obtain ⟨z1, z2⟩ := hwq
        go_simp
        first | done | with_reducible rfl
      simp only [Act.put, List.setIfInBounds_toArray, List.set_cons_zero, List.set_cons_succ, List.getElem_toArray, List.getElem_cons_zero]
      refine wpAnyH_take (i := 1) (v := ?_) rfl (by kernel_rfl) (by kernel_rfl) (by kernel_rfl) (fun _ _ _ h => h) (Or.inl ⟨by rfl, ?_⟩) hS ?_
      rotate_left
      · intro wq hwq
        obtain ⟨z1, z2⟩ := hwq
        go_simp
        first | done | with_reducible rfl
      simp only [Act.put, List.setIfInBounds_toArray, List.set_cons_zero, List.set_cons_succ, List.getElem_toArray, List.getElem_cons_zero, List.getElem_cons_succ]
      refine wpAnyH_take (i := 2) (v := ?_) rfl (by kernel_rfl) (by kernel_rfl) (by kernel_rfl) (fun _ _ _ h => h) (Or.inl ⟨by rfl, ?_⟩) hS ?_
      rotate_left
      · intro wq hwq
        obtain ⟨z1, z2⟩ := hwq
        go_simp
        first | done | with_reducible rfl
      simp only [Act.put, List.setIfInBounds_toArray, List.set_cons_zero, List.set_cons_succ, List.getElem_toArray, List.getElem_cons_zero, List.getElem_cons_succ]
      refine wpAnyH_take (i := 3) (v := ?_) rfl (by kernel_rfl) (by kernel_rfl) (by kernel_rfl) (fun _ _ _ h => h) (Or.inl ⟨by rfl, ?_⟩) hS ?_
      rotate_left
      · intro wq hwq
        obtain ⟨z1, z2⟩ := hwq
        go_simp
        first | done | with_reducible rfl
      simp only [Act.put, List.setIfInBounds_toArray, List.set_cons_zero, List.set_cons_succ, List.getElem_toArray, List.getElem_cons_zero, List.getElem_cons_succ]
      refine wpAnyH_take (i := 4) (v := ?_) rfl (by kernel_rfl) (by kernel_rfl) (by kernel_rfl) (fun _ _ _ h => h) (Or.inl ⟨by rfl, ?_⟩) hS ?_
      rotate_left
      · intro wq hwq
        obtain ⟨z1, z2⟩ := hwq
        go_simp
        first | done | with_reducible rfl
      simp only [Act.put, List.setIfInBounds_toArray, List.set_cons_zero, List.set_cons_succ, List.getElem_toArray, List.getElem_cons_zero, List.getElem_cons_succ]
      refine wpAnyH_take (i := 5) (v := ?_) rfl (by kernel_rfl) (by kernel_rfl) (by kernel_rfl) (fun _ _ _ h => h) (Or.inl ⟨by rfl, ?_⟩) hS ?_
      rotate_left
      · intro wq hwq
        obtain ⟨z1, z2⟩ := hwq
        go_simp
        first | done | with_reducible rfl
      simp only [Act.put, List.setIfInBounds_toArray, List.set_cons_zero, List.set_cons_succ, List.getElem_toArray, List.getElem_cons_zero, List.getElem_cons_succ]
      refine wpAnyH_take (i := 6) (v := ?_) rfl (by kernel_rfl) (by kernel_rfl) (by kernel_rfl) (fun _ _ _ h => h) (Or.inl ⟨by rfl, ?_⟩) hS ?_
      rotate_left
      · intro wq hwq
        obtain ⟨z1, z2⟩ := hwq
        go_simp
        first | done | with_reducible rfl
      simp only [Act.put, List.setIfInBounds_toArray, List.set_cons_zero, List.set_cons_succ, List.getElem_toArray, List.getElem_cons_zero, List.getElem_cons_succ]
      refine wpAnyH_take (i := 7) (v := ?_) rfl (by kernel_rfl) (by kernel_rfl) (by kernel_rfl) (fun _ _ _ h => h) (Or.inl ⟨by rfl, ?_⟩) hS ?_
      rotate_left
      · intro wq hwq
        obtain ⟨z1, z2⟩ := hwq
        go_simp
        first | done | with_reducible rfl
      simp only [Act.put, List.setIfInBounds_toArray, List.set_cons_zero, List.set_cons_succ, List.getElem_toArray, List.getElem_cons_zero, List.getElem_cons_succ]
      refine wpAnyH_ready (rs := [8]) (by kernel_rfl) (by simp) (AllReadyH.cons rfl (fun K hK => ?_) AllReadyH.nil)
      rw [if_pos (by rfl)]
      go_simp
      refine (expect ua ub uc ud ma mb wy (sr_kp HA6.out kd.out) (sr_kp HB6.out kd.out) GA.out.2 GB.out.2 GA.out.1 GB.out.1).mono ?_
      rintro e w7 ⟨g7, rfl, hsb7, hk7⟩
      refine hK.out _ _ (keep2 hk7 hS) (fun hS7 => ?_)
      clear hK K
      have K7 : Hid (Kp (fun _ => True) w6 w7) := kd.out.trans hk7
      have HE7 : Hid (SB w7 (some ⟨g7, 0, none⟩) (3 + ma.length) (expB ma mb)) := hsb7
      clear hS hsb7 hk7 kd
      refine wpAnyH_ready (rs := [9]) (by kernel_rfl) (by simp) (AllReadyH.cons rfl (fun K hK => ?_) AllReadyH.nil)
      rw [if_pos (by rfl)]
      go_simp
      refine (eq_true (some ⟨Ga, 0, none⟩) (some ⟨g7, 0, none⟩) (3 + ma.length) (3 + ma.length) (3 + ma.length) (expB ma mb) w7 (sb_kp SA.out K7.out (fun _ _ => trivial)) HE7.out (by have := GA.out.2; omega)).mono ?_
      rintro e w8 ⟨rfl, hk8⟩
      refine hK.out _ _ (keep2 hk8 hS7) (fun hS8 => ?_)
      clear hK K
      have K8 : Hid (Kp (fun _ => True) w6 w8) := K7.out.trans hk8
      clear hS7 hk8 K7 HE7
      refine wpAnyH_take (i := 10) (v := ?_) rfl (by kernel_rfl) (by kernel_rfl) (by kernel_rfl) (fun _ _ _ h => h) (Or.inl ⟨by rfl, ?_⟩) hS8 ?_
      rotate_left
      · intro wq hwq
        obtain ⟨z1, z2⟩ := hwq
        go_simp
        first | done | with_reducible rfl
      simp only [Act.put, List.setIfInBounds_toArray, List.set_cons_zero, List.set_cons_succ, List.getElem_toArray, List.getElem_cons_zero, List.getElem_cons_succ]
      refine wpAnyH_take (i := 11) (v := ?_) rfl (by kernel_rfl) (by kernel_rfl) (by kernel_rfl) (fun _ _ _ h => h) (Or.inl ⟨by rfl, ?_⟩) hS8 ?_
      rotate_left
      · intro wq hwq
        obtain ⟨z1, z2⟩ := hwq
        go_simp
        first | done | with_reducible rfl
      simp only [Act.put, List.setIfInBounds_toArray, List.set_cons_zero, List.set_cons_succ, List.getElem_toArray, List.getElem_cons_zero, List.getElem_cons_succ]
      refine wpAnyH_take (i := 12) (v := ?_) rfl (by kernel_rfl) (by kernel_rfl) (by kernel_rfl) (fun _ _ _ h => h) (Or.inl ⟨by rfl, ?_⟩) hS8 ?_
      rotate_left
      · intro wq hwq
        obtain ⟨z1, z2⟩ := hwq
        go_simp
        first | done | with_reducible rfl
      simp only [Act.put, List.setIfInBounds_toArray, List.set_cons_zero, List.set_cons_succ, List.getElem_toArray, List.getElem_cons_zero, List.getElem_cons_succ]
      refine wpAnyH_take (i := 13) (v := ?_) rfl (by kernel_rfl) (by kernel_rfl) (by kernel_rfl) (fun _ _ _ h => h) (Or.inl ⟨by rfl, ?_⟩) hS8 ?_
      rotate_left
      · intro wq hwq
        obtain ⟨z1, z2⟩ := hwq
        go_simp
        first | done | with_reducible rfl
      simp only [Act.put, List.setIfInBounds_toArray, List.set_cons_zero, List.set_cons_succ, List.getElem_toArray, List.getElem_cons_zero, List.getElem_cons_succ]
      refine wpAnyH_take (i := 14) (v := ?_) rfl (by kernel_rfl) (by kernel_rfl) (by kernel_rfl) (fun _ _ _ h => h) (Or.inl ⟨by rfl, ?_⟩) hS8 ?_
      rotate_left
      · intro wq hwq
        obtain ⟨z1, z2⟩ := hwq
        go_simp
        first | done | with_reducible rfl
      simp only [Act.put, List.setIfInBounds_toArray, List.set_cons_zero, List.set_cons_succ, List.getElem_toArray, List.getElem_cons_zero, List.getElem_cons_succ]
      refine wpAnyH_take (i := 15) (v := ?_) rfl (by kernel_rfl) (by kernel_rfl) (by kernel_rfl) (fun _ _ _ h => h) (Or.inl ⟨by rfl, ?_⟩) hS8 ?_
      rotate_left
      · intro wq hwq
        obtain ⟨z1, z2⟩ := hwq
        go_simp
        first | done | with_reducible rfl
      simp only [Act.put, List.setIfInBounds_toArray, List.set_cons_zero, List.set_cons_succ, List.getElem_toArray, List.getElem_cons_zero, List.getElem_cons_succ]
      refine wpAnyH_take (i := 16) (v := ?_) rfl (by kernel_rfl) (by kernel_rfl) (by kernel_rfl) (fun _ _ _ h => h) (Or.inl ⟨by rfl, ?_⟩) hS8 ?_
      rotate_left
      · intro wq hwq
        obtain ⟨z1, z2⟩ := hwq
        go_simp
        first | done | with_reducible rfl
      simp only [Act.put, List.setIfInBounds_toArray, List.set_cons_zero, List.set_cons_succ, List.getElem_toArray, List.getElem_cons_zero, List.getElem_cons_succ]
      refine wpAnyH_take (i := 17) (v := ?_) rfl (by kernel_rfl) (by kernel_rfl) (by kernel_rfl) (fun _ _ _ h => h) (Or.inl ⟨by rfl, ?_⟩) hS8 ?_
      rotate_left
      · intro wq hwq
        obtain ⟨z1, z2⟩ := hwq
        go_simp
        first | done | with_reducible rfl
      simp only [Act.put, List.setIfInBounds_toArray, List.set_cons_zero, List.set_cons_succ, List.getElem_toArray, List.getElem_cons_zero, List.getElem_cons_succ]
      refine wpAnyH_take (i := 18) (v := ?_) rfl (by kernel_rfl) (by kernel_rfl) (by kernel_rfl) (fun _ _ _ h => h) (Or.inl ⟨by rfl, ?_⟩) hS8 ?_
      rotate_left
      · intro wq hwq
        obtain ⟨z1, z2⟩ := hwq
        go_simp
        first | done | with_reducible rfl
      simp only [Act.put, List.setIfInBounds_toArray, List.set_cons_zero, List.set_cons_succ, List.getElem_toArray, List.getElem_cons_zero, List.getElem_cons_succ]
      refine wpAnyH_ready (rs := [19]) (by kernel_rfl) (by simp) (AllReadyH.cons rfl (fun K hK => ?_) AllReadyH.nil)
      rw [if_pos (by rfl)]
      go_simp
      refine (expect ub ua ud uc mb ma w8 (sr_kp HB6.out K8.out) (sr_kp HA6.out K8.out) GB.out.2 GA.out.2 GB.out.1 GA.out.1).mono ?_
      rintro e w9 ⟨g9, rfl, hsb9, hk9⟩
      refine hK.out _ _ (keep2 hk9 hS8) (fun hS9 => ?_)
      clear hK K
      have K9 : Hid (Kp (fun _ => True) w6 w9) := K8.out.trans hk9
      have HE9 : Hid (SB w9 (some ⟨g9, 0, none⟩) (3 + mb.length) (expB mb ma)) := hsb9
      clear hS8 hsb9 hk9 K8
      refine wpAnyH_ready (rs := [20]) (by kernel_rfl) (by simp) (AllReadyH.cons rfl (fun K hK => ?_) AllReadyH.nil)
      rw [if_pos (by rfl)]
      go_simp
      refine (eq_true (some ⟨Gb, 0, none⟩) (some ⟨g9, 0, none⟩) (3 + mb.length) (3 + mb.length) (3 + mb.length) (expB mb ma) w9 (sb_kp SB'.out K9.out (fun _ _ => trivial)) HE9.out (by have := GB.out.2; omega)).mono ?_
      rintro e w10 ⟨rfl, hk10⟩
      refine hK.out _ _ (keep2 hk10 hS9) (fun hS10 => ?_)
      clear hK K
      have K10 : Hid (Kp (fun _ => True) w w10) := K6.out.trans (K9.out.trans hk10)
      clear hS9 hk10 K9 HE9
      refine wpAnyH_take (i := 21) (v := ?_) rfl (by kernel_rfl) (by kernel_rfl) (by kernel_rfl) (fun _ _ _ h => h) (Or.inl ⟨by rfl, ?_⟩) hS10 ?_
      rotate_left
      · intro wq hwq
        obtain ⟨z1, z2⟩ := hwq
        go_simp
        first | done | with_reducible rfl
      simp only [Act.put, List.setIfInBounds_toArray, List.set_cons_zero, List.set_cons_succ, List.getElem_toArray, List.getElem_cons_zero, List.getElem_cons_succ]
      refine wpAnyH_take (i := 22) (v := ?_) rfl (by kernel_rfl) (by kernel_rfl) (by kernel_rfl) (fun _ _ _ h => h) (Or.inl ⟨by rfl, ?_⟩) hS10 ?_
      rotate_left
      · intro wq hwq
        obtain ⟨z1, z2⟩ := hwq
        go_simp
        first | done | with_reducible rfl
      simp only [Act.put, List.setIfInBounds_toArray, List.set_cons_zero, List.set_cons_succ, List.getElem_toArray, List.getElem_cons_zero, List.getElem_cons_succ]
      refine wpAnyH_done (by kernel_rfl) ?_ _
      go_wp2_with fail
      go_ret
      exact ⟨rfl, below_of_kp K10.out⟩
    · have hx' : (xs.length : Int) ≤ 1024 := by omega
      have hy' : ¬ (ys.length : Int) ≤ 1024 := by omega
      have hy2 : (1024 : Int) < (ys.length : Int) := by omega
      go_wp2_with fail
      go_ret
      exact ⟨rfl, Below.refl _ _⟩
  · have hx2 : (1024 : Int) < (xs.length : Int) := by omega
    go_wp2_with fail
    go_ret
    exact ⟨rfl, Below.refl _ _⟩
end Go.Proofs.YbulkawhcDoor.La
