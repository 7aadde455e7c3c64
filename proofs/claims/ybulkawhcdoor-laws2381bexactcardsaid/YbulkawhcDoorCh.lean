import Derived.Test.YbulkawhcDoorChA
namespace Go.Proofs.YbulkawhcDoor.Ch
open Go.ChangeShapes Go.WideShapes Go.ChangeAt Go.RowKit Go.Maps Go.Proofs.YbulkawhcDoor.Lw Go.Proofs.YbulkawhcDoor Go.Proofs.YbulkawhcDoor.Pl Go.Proofs.YbulkawhcDoor.Se Go.Proofs.YbulkawhcDoor.De Go.Proofs.YbulkawhcDoor.Me Go.Proofs.YbulkawhcDoor.Po
/-- The state between the rounds of the outer loops. -/
def OI (w0 w : World) (S P : Nat → Nat) (c : Nat) (ms : Nat → List Mem) (k : Nat) (wr : World) : Prop :=
  Kp (fun _ => True) w0 wr ∧ Kp (fun z => z ≠ S 0 ∧ z ≠ S 1) w wr ∧ ∀ s, s < 2 → ∃ v, SBk wr (S s) (P s) c v ∧ (s < k → ∃ G, v = .slice (some ⟨G, 0, none⟩) (3 + (ms s).length) (3 + (ms s).length) ∧ GR w0 wr G (S 0) (S 1) (3 + (ms s).length) (expB (ms s) (ms (1 - s))))
theorem oi_keep {w0 w wr w1 : World} {S P : Nat → Nat} {c : Nat} {ms : Nat → List Mem} {k : Nat} (h : OI w0 w S P c ms k wr) (hk : Kp (fun _ => True) wr w1) : OI w0 w S P c ms k w1 :=
  ⟨h.1.trans hk, h.2.1.trans (hk.mono (fun _ _ _ => trivial)), fun s hs => by
    obtain ⟨v, h1, h2⟩ := h.2.2 s hs
    refine ⟨v, sbk_kp h1 hk trivial, fun hsk => ?_⟩
    obtain ⟨G, e, g1, g2, g3, g4⟩ := h2 hsk
    exact ⟨G, e, g1, g2, g3, hk.row g4 trivial⟩⟩

section
variable {w0 w wy w5 wr : World} {S P : Nat → Nat} {c : Nat} {ms : Nat → List Mem} {k n : Nat}
theorem in_facts (h : OI w0 w S P c ms k wy) (hk2 : k < 2) (hS : ∀ s, s < 2 → w0.heap.size ≤ S s) (hk5 : Kp (fun _ => True) wy w5)
    (hk6 : Kp (fun z => z ≠ wy.heap.size) (w5.setCell ⟨S k, 4 + c, none⟩ (.slice (some ⟨wy.heap.size, 0, none⟩) n n)) wr) :
    Kp (fun _ => True) w0 wr ∧ SBk wr (S k) (P k) c (.slice (some ⟨wy.heap.size, 0, none⟩) n n) := by
  obtain ⟨v, hv, _⟩ := h.2.2 k hk2
  have hl := (sbk_cells hv).2.2.2
  have hs := hS k hk2
  refine ⟨?_, sbk_kp (sbk_set (sbk_kp hv hk5 trivial) _) hk6 (by omega)⟩
  have k1 : Kp (fun _ => True) w0 (w5.setCell ⟨S k, 4 + c, none⟩ (.slice (some ⟨wy.heap.size, 0, none⟩) n n)) := (h.1.trans hk5).setCell (.inr hs) _
  have hsz := h.1.size
  exact ⟨hk6.os.trans k1.os, hk6.tape.trans k1.tape, hk6.output.trans k1.output, Nat.le_trans k1.size hk6.size, fun z hz _ => (hk6.block z (Nat.lt_of_lt_of_le hz k1.size) (by omega)).trans (k1.block z hz trivial)⟩
theorem oi_step (h : OI w0 w S P c ms k wy) (hk2 : k < 2) (hS : ∀ s, s < 2 → w0.heap.size ≤ S s) (hne : S 0 ≠ S 1) (hk5 : Kp (fun _ => True) wy w5) (hn : n = 3 + (ms k).length)
    (hk6 : Kp (fun z => z ≠ wy.heap.size) (w5.setCell ⟨S k, 4 + c, none⟩ (.slice (some ⟨wy.heap.size, 0, none⟩) n n)) wr)
    (hrow : wr.heap[wy.heap.size]? = some (.cells (rowF n (fun i => .bool (expB (ms k) (ms (1 - k)) i))).toArray 4 (0, 0))) :
    OI w0 w S P c ms (k + 1) wr := by
  obtain ⟨f1, f2⟩ := in_facts h hk2 hS hk5 hk6
  have lt : ∀ s, s < 2 → S s < wy.heap.size := fun s hs => by
    obtain ⟨v, hv, _⟩ := h.2.2 s hs
    exact (sbk_cells hv).2.2.2
  have l0 := lt 0 (by omega)
  have l1 := lt 1 (by omega)
  have hsk : S k = S 0 ∨ S k = S 1 := by
    have : k = 0 ∨ k = 1 := by omega
    rcases this with rfl | rfl
    · exact .inl rfl
    · exact .inr rfl
  have k6 : Kp (fun z => z ≠ S k ∧ z ≠ wy.heap.size) wy wr :=
    ((hk5.mono (fun _ _ _ => trivial)).setCell (q := ⟨S k, 4 + c, none⟩) (.inl (fun h => h.1 rfl)) _).trans (hk6.mono (fun _ _ h => h.2))
  refine ⟨f1, ⟨k6.os.trans h.2.1.os, k6.tape.trans h.2.1.tape, k6.output.trans h.2.1.output, Nat.le_trans h.2.1.size k6.size, fun z hz hp => (k6.block z (Nat.lt_of_lt_of_le hz h.2.1.size) ⟨?_, ?_⟩).trans (h.2.1.block z hz hp)⟩, fun s hs => ?_⟩
  · rcases hsk with e | e
    · rw [e]; exact hp.1
    · rw [e]; exact hp.2
  · have := h.2.1.size; omega
  · by_cases e : s = k
    · subst e
      subst hn
      exact ⟨_, f2, fun _ => ⟨_, rfl, h.1.size, by omega, by omega, hrow⟩⟩
    · have hss : S s ≠ S k := by
        have h1 : s = 0 ∧ k = 1 ∨ s = 1 ∧ k = 0 := by omega
        rcases h1 with ⟨rfl, rfl⟩ | ⟨rfl, rfl⟩
        · exact hne
        · exact Ne.symm hne
      obtain ⟨v, hv, hg⟩ := h.2.2 s hs
      refine ⟨v, sbk_kp hv k6 ⟨hss, by have := lt s hs; omega⟩, fun hsk' => ?_⟩
      obtain ⟨G, e1, g1, g2, g3, g4⟩ := hg (by omega)
      refine ⟨G, e1, g1, g2, g3, k6.row g4 ⟨?_, ?_⟩⟩
      · rcases hsk with e | e
        · rw [e]; exact g2
        · rw [e]; exact g3
      · have := lt_of_row g4; omega
end

theorem kp_same {w : World} {G n j : Nat} {f : Nat → Bool} (h : w.heap[G]? = some (.cells (rowF n (fun i => .bool (f i))).toArray 4 (0, 0))) (hj : f j = true) : Kp (fun _ => True) w (w.setCell ⟨G, j, none⟩ (.bool true)) := by
  have k1 : Kp (fun z => z ≠ G) w (w.setCell ⟨G, j, none⟩ (.bool true)) := (Kp.refl _ _).setCell (.inl (fun h => h rfl)) _
  refine ⟨k1.os, k1.tape, k1.output, k1.size, fun z hz _ => ?_⟩
  by_cases e : z = G
  · subst e
    rw [set_row h j (.bool true), row_same f n j hj, h]
  · exact k1.block z hz e

set_option maxRecDepth 100000 in
set_option maxHeartbeats 8000000 in
theorem changed (c : Nat) (hc : c < 3) (S P E ecap L M : Nat → Nat) (D : Nat → DataW Unit) (ms : Nat → List Mem) (w0 w : World)
    (hq : ∀ s, s < 2 → PQ w0 (P s) (1 + c * 23) (E s) (ecap s) (L s) (M s) (D s) (ms s)) (hg : ∀ s, s < 2 → Pl.Good (ms s)) (hl : ∀ s, s < 2 → (ms s).length ≤ 1024)
    (hk : Kp (fun _ => True) w0 w) (hS : ∀ s, s < 2 → w0.heap.size ≤ S s) (hne : S 0 ≠ S 1) (hb : ∀ s, s < 2 → ∃ v, SBk w (S s) (P s) c v) :
    Calls Ybad.prog 7 #[.int .i64 (c : Int), .pointer (some ⟨S 0, 0, none⟩), .pointer (some ⟨S 1, 0, none⟩)] w fun e w' => (∃ v, e = .returned v) ∧ OI w0 w S P c ms 2 w' := by
  obtain ⟨i4, ti, tz0, tz1, tz2⟩ := info_parts info4
  have HQ : Hid (∀ s, s < 2 → PQ w0 (P s) (1 + c * 23) (E s) (ecap s) (L s) (M s) (D s) (ms s)) := hq
  have HG : Hid (∀ s, s < 2 → Pl.Good (ms s)) := hg
  have HL : Hid (∀ s, s < 2 → (ms s).length ≤ 1024) := hl
  have HSS : Hid (∀ s, s < 2 → w0.heap.size ≤ S s) := hS
  have HNE : Hid (S 0 ≠ S 1) := hne
  have HO0 : Hid (OI w0 w S P c ms 0 w) := ⟨hk, Kp.refl _ _, fun s hs => by obtain ⟨v, hv⟩ := hb s hs; exact ⟨v, hv, fun h => absurd h (by omega)⟩⟩
  clear hq hg hl hk hS hne hb
  have hc' : (c : Int) < 3 := by omega
  go_enter Ybad.func7, Ybad.ntmps7
  go_wp2_with fail
  go_loopg [34] 2 (fun g iv wr => ∃ k : Nat, k ≤ 2 ∧ g = 2 - k ∧ iv = .int .i64 k ∧ OI w0 w S P c ms k wr)
  case atStart => exact ⟨0, Nat.zero_le _, rfl, rfl, HO0.out⟩
  case round =>
    obtain ⟨k, hk, rfl, rfl, hoi⟩ := hrel
    obtain ⟨wo, rfl⟩ : ∃ wo, wo = wr := ⟨wr, rfl⟩
    have HO : Hid (OI w0 w S P c ms k wo) := hoi
    clear hoi HO0
    by_cases hk2 : k < 2
    · have hk2' : (k : Int) < 2 := by omega
      go_upto_region 2 with fail
      go_cut [7] (fun v wx => ∃ B, v = .pointer (some ⟨B, 0, none⟩) ∧ Kp (fun _ => True) wo wx ∧ wx.cell? ⟨B, 0, none⟩ = some (.pointer (some ⟨S k, 0, none⟩)) ∧ wx.cell? ⟨B, 1, none⟩ = some (.pointer (some ⟨S (1 - k), 0, none⟩)))
      case first =>
        have hcc : k = 0 ∨ k = 1 := by omega
        rcases hcc with rfl | rfl
        · go_wp2_with ((with_reducible show wpList _ _ _ (Oper.mk _ (Op.index 94 _ _) _ _ _ _ :: _) _ _); refine wpList_index rfl 94 _ _ rfl _ (idx94a _ _ _ _ _) ?_)
          go_meet
          case rel => exact ⟨_, rfl, (Kp.refl _ _).alloc _, (two_cells (heap_alloc_new wo _)).1, (two_cells (heap_alloc_new wo _)).2⟩
        · go_wp2_with ((with_reducible show wpList _ _ _ (Oper.mk _ (Op.index 94 _ _) _ _ _ _ :: _) _ _); refine wpList_index rfl 94 _ _ rfl _ (idx94b _ _ _ _ _) ?_)
          go_meet
          case rel => exact ⟨_, rfl, (Kp.refl _ _).alloc _, (two_cells (heap_alloc_new wo _)).1, (two_cells (heap_alloc_new wo _)).2⟩
      case rest =>
        obtain ⟨B, rfl, hkc, b0, b1⟩ := hcut
        have HO1 : Hid (OI w0 w S P c ms k wc) := oi_keep HO.out hkc
        clear HO hkc
        have h1k : 1 - k < 2 := by omega
        obtain ⟨vs, hs1, _⟩ := HO1.out.2.2 k hk2
        obtain ⟨vt, ht1, _⟩ := HO1.out.2.2 (1 - k) h1k
        obtain ⟨s0, s4, sf, sl⟩ := sbk_cells hs1
        obtain ⟨t0, t4, tf, tl⟩ := sbk_cells ht1
        have q0 := cell_kp HO1.out.1 (HQ.out k hk2).ns.ev trivial
        have bB := World.block_lt_of_cell? wc _ b0
        have bP := World.block_lt_of_cell? wc _ q0
        have q1 := cell_kp HO1.out.1 (HQ.out (1 - k) h1k).mc trivial
        have bQ := World.block_lt_of_cell? wc _ q1
        clear hs1 ht1 s4 sf t4 tf q1
        go_wp2_with fail
        go_quiet (fail)
        have kq1 : Kp (fun _ => True) wc (wc.drewN nq) := (Kp.refl _ _).drewN _
        have HO2 : Hid (OI w0 w S P c ms k (wc.drewN nq)) := oi_keep HO1.out kq1
        have s0' := cell_kp kq1 s0 trivial
        have t0' := cell_kp kq1 t0 trivial
        have q0' := cell_kp kq1 q0 trivial
        clear kq1 HO1 s0 t0 q0 b0 b1 bB bP bQ sl tl
        generalize wc.drewN nq = wx at *
        have sl := World.block_lt_of_cell? wx _ s0'
        have tl := World.block_lt_of_cell? wx _ t0'
        have bP := World.block_lt_of_cell? wx _ q0'
        go_wp2_with fail
        go_quiet (fail)
        have kq2 : Kp (fun _ => True) wx (wx.drewN nq).drew := ((Kp.refl _ _).drewN _).drew
        have HO3 : Hid (OI w0 w S P c ms k (wx.drewN nq).drew) := oi_keep HO2.out kq2
        have q0 := cell_kp kq2 q0' trivial
        clear kq2 HO2 s0' t0' q0' sl tl bP
        go_upto_region 5 with fail
        obtain ⟨n, hn⟩ : ∃ n, 3 + (ms k).length = n := ⟨_, rfl⟩
        have HN : Hid (n = 3 + (ms k).length) := hn.symm
        have hn5 : n ≤ 5000 := by have := HL.out k hk2; omega
        rw [hn] at q0
        clear hn
        generalize hEk : E k = Ek at *
        generalize hck : ecap k = ck at *
        refine wp_region_held_drew (S := fun w' => w'.cell? ⟨P k, 1 + c * 23 + 1, none⟩ = some (.slice (some ⟨Ek, 0, none⟩) n ck)) (by kernel_rfl) q0 (fun hS0 => ?_)
        generalize (wx.drewN nq).drew = wy at *
        refine wpAnyH_take (i := 0) (v := ?_) rfl (by kernel_rfl) (by kernel_rfl) (by kernel_rfl) (fun _ _ _ h => h) (Or.inl ⟨by rfl, ?_⟩) hS0 ?_
        rotate_left
        · intro wq hwq
          go_simp
          first | done | with_reducible rfl
        simp only [Act.put, List.setIfInBounds_toArray, List.set_cons_zero, List.set_cons_succ, List.getElem_toArray, List.getElem_cons_zero]
        refine wpAnyH_take (i := 1) (v := ?_) rfl (by kernel_rfl) (by kernel_rfl) (by kernel_rfl) (fun _ _ _ h => h) (Or.inl ⟨by rfl, ?_⟩) hS0 ?_
        rotate_left
        · intro wq hwq
          go_simp
          first | done | with_reducible rfl
        simp only [Act.put, List.setIfInBounds_toArray, List.set_cons_zero, List.set_cons_succ, List.getElem_toArray, List.getElem_cons_zero, List.getElem_cons_succ]
        refine wpAnyH_take (i := 2) (v := ?_) rfl (by kernel_rfl) (by kernel_rfl) (by kernel_rfl) (fun _ _ _ h => h) (Or.inl ⟨by rfl, ?_⟩) hS0 ?_
        rotate_left
        · intro wq hwq
          go_simp
          first | done | with_reducible rfl
        simp only [Act.put, List.setIfInBounds_toArray, List.set_cons_zero, List.set_cons_succ, List.getElem_toArray, List.getElem_cons_zero, List.getElem_cons_succ]
        refine wpAnyH_take (i := 3) (v := ?_) rfl (by kernel_rfl) (by kernel_rfl) (by kernel_rfl) (fun _ _ _ h => h) (Or.inl ⟨by rfl, ?_⟩) hS0 ?_
        rotate_left
        · intro wq hwq
          go_simp
          first | done | with_reducible rfl
        simp only [Act.put, List.setIfInBounds_toArray, List.set_cons_zero, List.set_cons_succ, List.getElem_toArray, List.getElem_cons_zero, List.getElem_cons_succ]
        refine wpAnyH_take (i := 4) (v := ?_) rfl (by kernel_rfl) (by kernel_rfl) (by kernel_rfl) (fun _ _ _ h => h) (Or.inl ⟨by rfl, ?_⟩) hS0 ?_
        rotate_left
        · intro wq hwq
          go_simp
          first | done | with_reducible rfl
        simp only [Act.put, List.setIfInBounds_toArray, List.set_cons_zero, List.set_cons_succ, List.getElem_toArray, List.getElem_cons_zero, List.getElem_cons_succ]
        refine wpAnyH_take (i := 5) (v := ?_) rfl (by kernel_rfl) (by kernel_rfl) (by kernel_rfl) (fun _ _ _ h => h) (Or.inl ⟨by rfl, ?_⟩) hS0 ?_
        rotate_left
        · intro wq hwq
          go_simp
          first | done | with_reducible rfl
        simp only [Act.put, List.setIfInBounds_toArray, List.set_cons_zero, List.set_cons_succ, List.getElem_toArray, List.getElem_cons_zero, List.getElem_cons_succ]
        refine wpAnyH_take (i := 6) (v := ?_) rfl (by kernel_rfl) (by kernel_rfl) (by kernel_rfl) (fun _ _ _ h => h) (Or.inl ⟨by rfl, ?_⟩) hS0 ?_
        rotate_left
        · intro wq hwq
          go_simp
          first | done | with_reducible rfl
        simp only [Act.put, List.setIfInBounds_toArray, List.set_cons_zero, List.set_cons_succ, List.getElem_toArray, List.getElem_cons_zero, List.getElem_cons_succ]
        refine wpAnyH_take (i := 8) (v := ?_) rfl (by kernel_rfl) (by kernel_rfl) (by kernel_rfl) (fun _ _ _ h => h) (Or.inl ⟨by rfl, ?_⟩) hS0 ?_
        rotate_left
        · intro wq hwq
          go_simp
          first | done | with_reducible rfl
        simp only [Act.put, List.setIfInBounds_toArray, List.set_cons_zero, List.set_cons_succ, List.getElem_toArray, List.getElem_cons_zero, List.getElem_cons_succ]
        refine wpAnyH_take (i := 9) (v := ?_) rfl (by kernel_rfl) (by kernel_rfl) (by kernel_rfl) (fun _ _ _ h => h) (Or.inl ⟨by rfl, ?_⟩) hS0 ?_
        rotate_left
        · intro wq hwq
          go_simp
          first | done | with_reducible rfl
        simp only [Act.put, List.setIfInBounds_toArray, List.set_cons_zero, List.set_cons_succ, List.getElem_toArray, List.getElem_cons_zero, List.getElem_cons_succ]
        refine wpAnyH_ready (rs := [7]) (by kernel_rfl) (by simp) (AllReadyH.cons rfl (fun K hK => ?_) AllReadyH.nil)
        rw [if_pos (by rfl)]
        refine wp_make_row (.tmp 63) (.tmp 63) 29 rfl 4 i4 (.bool false) 1 Ybad.underlying29 ti tz0 tz1 tz2 rfl _ _ _ _ n rfl rfl rfl rfl (by omega) (by unfold maxLen; omega) ?_
        intro w5 hrow5 hk5 hs5
        refine hK.out _ _ (cell_kp hk5 q0 trivial) (fun hS0 => ?_)
        clear hK K
        simp only [Act.put, List.setIfInBounds_toArray, List.set_cons_zero, List.set_cons_succ, List.getElem_toArray, List.getElem_cons_zero, List.getElem_cons_succ]
        refine wpAnyH_take (i := 10) (v := ?_) rfl (by kernel_rfl) (by kernel_rfl) (by kernel_rfl) (fun _ _ _ h => h) (Or.inl ⟨by rfl, ?_⟩) hS0 ?_
        rotate_left
        · intro wq hwq
          go_simp
          first | done | with_reducible rfl
        simp only [Act.put, List.setIfInBounds_toArray, List.set_cons_zero, List.set_cons_succ, List.getElem_toArray, List.getElem_cons_zero, List.getElem_cons_succ]
        obtain ⟨vs5, hv5, hx5⟩ := HO3.out.2.2 k hk2
        obtain ⟨_, x4, xf, xl⟩ := sbk_cells (sbk_kp hv5 hk5 trivial)
        refine wpAnyH_ready (rs := [11]) (by kernel_rfl) (by simp) (AllReadyH.cons rfl (fun K hK => ?_) AllReadyH.nil)
        rw [if_pos (by rfl)]
        go_simp
        have hPS : P k ≠ S k := by
          have h1 := HSS.out k hk2
          have h2 := World.block_lt_of_cell? w0 _ (HQ.out k hk2).mc
          have h3 : P k < w0.heap.size := h2
          omega
        refine hK.out _ _ (cell_kp (p := fun z => z ≠ S k) ((Kp.refl _ _).setCell (.inl (fun h => h rfl)) _) hS0 hPS) (fun _ => ?_)
        refine wpAnyH_done (by kernel_rfl) ?_ _
        clear hK K x4 xf xl hx5 hv5 vs5 hPS hS0 q0
        have HK5 : Hid (Kp (fun _ => True) wy w5) := hk5
        have HIN : Hid (∀ wr, Kp (fun z => z ≠ wy.heap.size) (w5.setCell ⟨S k, 4 + c, none⟩ (.slice (some ⟨wy.heap.size, 0, none⟩) n n)) wr → Kp (fun _ => True) w0 wr ∧ SBk wr (S k) (P k) c (.slice (some ⟨wy.heap.size, 0, none⟩) n n)) := fun wr h => in_facts HO3.out hk2 HSS.out hk5 h
        have HST : Hid (∀ wr, Kp (fun z => z ≠ wy.heap.size) (w5.setCell ⟨S k, 4 + c, none⟩ (.slice (some ⟨wy.heap.size, 0, none⟩) n n)) wr → wr.heap[wy.heap.size]? = some (.cells (rowF n (fun i => .bool (expB (ms k) (ms (1 - k)) i))).toArray 4 (0, 0)) → OI w0 w S P c ms (k + 1) wr) := fun wr h h' => oi_step HO3.out hk2 HSS.out HNE.out hk5 HN.out h h'
        have HR6 : Hid ((w5.setCell ⟨S k, 4 + c, none⟩ (.slice (some ⟨wy.heap.size, 0, none⟩) n n)).heap[wy.heap.size]? = some (.cells (rowF n (rF (expB (ms k) (ms (1 - k))) 0)).toArray 4 (0, 0))) := by
          have ⟨v, hv, _⟩ := HO3.out.2.2 k hk2
          have hl := (sbk_cells hv).2.2.2
          rw [Hid, rF_start]
          exact ((Kp.refl (fun z => z ≠ S k) _).setCell (q := ⟨S k, 4 + c, none⟩) (.inl (fun h => h rfl)) _).row hrow5 (by omega)
        clear HO3 HK5 hk5 hrow5 hs5
        generalize w5.setCell ⟨S k, 4 + c, none⟩ (.slice (some ⟨wy.heap.size, 0, none⟩) n n) = w6 at *
        generalize wy.heap.size = G at *
        have q6 := cell_kp (HIN.out w6 (Kp.refl _ _)).1 (HQ.out k hk2).ns.ev trivial
        rw [← HN.out, hEk, hck] at q6
        have q6l := World.block_lt_of_cell? w6 _ q6
        go_wp2_with fail
        clear q6l q6
        go_loopg [12, 73] n (fun g cl iv wr => ∃ id : Nat, id ≤ n ∧ g = n - id ∧ iv = .int .i64 id ∧ cl = .slice none 0 0 ∧ Kp (fun z => z ≠ G) w6 wr ∧ wr.heap[G]? = some (.cells (rowF n (rF (expB (ms k) (ms (1 - k))) id)).toArray 4 (0, 0)))
        case atStart => exact ⟨0, Nat.zero_le _, rfl, rfl, rfl, Kp.refl _ _, HR6.out⟩
        case round =>
          obtain ⟨id, hid, rfl, rfl, rfl, hkr, hrow⟩ := hrel
          have HKR : Hid (Kp (fun z => z ≠ G) w6 wr) := hkr
          have HRW : Hid (wr.heap[G]? = some (.cells (rowF n (rF (expB (ms k) (ms (1 - k))) id)).toArray 4 (0, 0))) := hrow
          clear hkr hrow HR6
          by_cases hidl : id < n
          · have hidl' : (id : Int) < (n : Int) := by omega
            have hk0 := (HIN.out wr HKR.out).1
            have hid3 : id < 3 + (ms k).length := by have := HN.out; omega
            obtain ⟨e0, e1, e2, e3⟩ := (HQ.out k hk2).ns.ent id hid3
            rw [hEk] at e0 e1 e2 e3
            have e0' := cell_kp hk0 e0 trivial
            have e1' := cell_kp hk0 e1 trivial
            have e2' := cell_kp hk0 e2 trivial
            have e3' := cell_kp hk0 e3 trivial
            have eb := World.block_lt_of_cell? wr _ e0'
            have HKY : Hid (keyOf Ybad.prog 9 (.string (en (ms k) id)) = some (klE (en (ms k) id))) := key_en (ms k) id
            clear e0 e1 e2 e3
            obtain ⟨nmv, hnm⟩ : ∃ x, x = en (ms k) id := ⟨_, rfl⟩
            obtain ⟨cb, hcb⟩ : ∃ x, x = decide (id < 3) := ⟨_, rfl⟩
            rw [← hnm] at e0' HKY
            rw [← hcb] at e2'
            have HNM : Hid (nmv = en (ms k) id) := hnm
            have HCB : Hid (cb = decide (id < 3)) := hcb
            clear hnm hcb
            go_upto_region 10 with fail
            have ka : Kp (fun _ => True) wr (wr.alloc (.cells #[.string nmv, .int .i64 0, .bool cb, .slice none 0 0] 77)) := (Kp.refl _ _).alloc _
            have hba := heap_alloc_new wr (.cells #[.string nmv, .int .i64 0, .bool cb, .slice none 0 0] 77)
            have HKA : Hid (Kp (fun _ => True) wr (wr.alloc (.cells #[.string nmv, .int .i64 0, .bool cb, .slice none 0 0] 77))) := ka
            have HBA : Hid ((wr.alloc (.cells #[.string nmv, .int .i64 0, .bool cb, .slice none 0 0] 77)).heap[wr.heap.size]? = some (.cells #[.string nmv, .int .i64 0, .bool cb, .slice none 0 0] 77 (0, 0))) := hba
            have HGB : Hid (G < wr.heap.size) := lt_of_row HRW.out
            have HK0 : Hid (Kp (fun _ => True) w0 (wr.alloc (.cells #[.string nmv, .int .i64 0, .bool cb, .slice none 0 0] 77))) := hk0.trans ka
            clear ka hba hk0 e0' e1' e2' e3' eb
            generalize wr.alloc (.cells #[.string nmv, .int .i64 0, .bool cb, .slice none 0 0] 77) = wa at *
            generalize wr.heap.size = B14 at *
            have n0 : wa.cell? ⟨B14, 0, none⟩ = some (.string nmv) := by rw [cell_of_row wa _ 0 _ 77 (0, 0) HBA.out]; rfl
            have n2 : wa.cell? ⟨B14, 2, none⟩ = some (.bool cb) := by rw [cell_of_row wa _ 2 _ 77 (0, 0) HBA.out]; rfl
            have nl := lt_of_row HBA.out
            have pqt := pq_kp (HQ.out (1 - k) h1k) HK0.out
            have m0 := pqt.mc
            have ml := World.block_lt_of_cell? wa _ m0
            generalize hMt : M (1 - k) = Mt at *
            have hlk0 := look_pq pqt nmv HKY.out
            clear pqt
            rcases hlk0 with ⟨j, hj, hej, hrun⟩ | ⟨hno, hrun⟩
            · obtain ⟨hx1, hx2⟩ := chg_in (HG.out k hk2) (HG.out (1 - k) h1k) hid3 hj (hej.trans HNM.out)
              obtain ⟨bd, hbd⟩ : ∃ x, x = declB (ms k) (ms (1 - k)) id j := ⟨_, rfl⟩
              rw [← hbd] at hx1 hx2
              have HX1 : Hid (expB (ms k) (ms (1 - k)) id = !bd) := hx1
              have HX2 : Hid (bd = false → cb = false) := by rw [Hid, HCB.out]; exact hx2
              have HBD : Hid (bd = declB (ms k) (ms (1 - k)) id j) := hbd
              have HJ : Hid (j < 3 + (ms (1 - k)).length) := hj
              clear hx1 hx2 hbd hej hj
              go_wp2_with fail
              go_quiet (fail)
              have HKB0 : Hid (Kp (fun _ => True) wr (wa.drewN nq)) := HKA.out.trans ((Kp.refl _ _).drewN _)
              have HCD : Hid (Calls Ybad.prog 10 #[.pointer (some ⟨P k, 1 + c * 23, none⟩), .int .i64 (id : Int), .pointer (some ⟨P (1 - k), 1 + c * 23, none⟩), .int .i64 (j : Int)] (wa.drewN nq) fun e w' => e = .returned (.bool bd) ∧ Kp (fun _ => True) (wa.drewN nq) w') := by
                rw [HBD.out]
                exact decl _ _ _ _ _ _ _ _ _ (pq_kp (HQ.out k hk2) (HK0.out.trans ((Kp.refl _ _).drewN _))).ns hid3 _ _ _ _ _ _ _ _ (pq_kp (HQ.out (1 - k) h1k) (HK0.out.trans ((Kp.refl _ _).drewN _))).ns HJ.out
              have HN2 : Hid ((wa.drewN nq).cell? ⟨B14, 2, none⟩ = some (.bool cb)) := n2
              clear n0 n2 nl m0 ml hrun HBD HJ HBA HKA HK0 HCB HNM HKY hid3
              generalize wa.drewN nq = wb at *
              cases bd
              · obtain rfl : cb = false := HX2.out rfl
                have HEX : Hid (expB (ms k) (ms (1 - k)) id = true) := HX1.out
                clear HX1 HX2
                go_upto_region 13 with (go_at_call 10; refine HCD.out.mono ?_; rintro e wd ⟨rfl, hkA⟩)
                have HKB : Hid (Kp (fun _ => True) wr wd) := HKB0.out.trans hkA
                have n2 := cell_kp hkA HN2.out trivial
                have nl := World.block_lt_of_cell? wd _ n2
                clear hkA HKB0 HN2 HCD
                have HK7 : Hid (Kp (fun z => z ≠ G) w6 wd) := HKR.out.trans (HKB.out.mono (fun _ _ _ => trivial))
                have HR7 : Hid (wd.heap[G]? = some (.cells (rowF n (rF (expB (ms k) (ms (1 - k))) id)).toArray 4 (0, 0))) := HKB.out.row HRW.out trivial
                have HR8 : Hid ((wd.setCell ⟨G, id, none⟩ (.bool true)).heap[G]? = some (.cells (rowF n (rF (expB (ms k) (ms (1 - k))) (id + 1))).toArray 4 (0, 0))) := by
                  rw [Hid, ← rF_true _ n id HEX.out]; exact set_row HR7.out id (.bool true)
                obtain ⟨_, x4, xf, xl⟩ := sbk_cells (HIN.out wd HK7.out).2
                have g0 : wd.cell? ⟨G, id, none⟩ = some (rF (expB (ms k) (ms (1 - k))) id id) := by
                  rw [cell_of_row wd G id _ 4 (0, 0) HR7.out]; simpa using rowF_get n _ id hidl
                have gf := frozen_of_row wd G id _ 4 HR7.out
                have gl := lt_of_row HR7.out
                generalize rF (expB (ms k) (ms (1 - k))) id id = gv at g0
                go_wp2_with fail
                go_roundg (n - (id + 1))
                case measure => omega
                case rel => exact ⟨id + 1, hidl, rfl, by go_num, rfl, HK7.out.setCell (.inl (fun h => h rfl)) _, HR8.out⟩
              · have HEX : Hid (expB (ms k) (ms (1 - k)) id = false) := HX1.out
                clear HX1 HX2 HN2
                go_wp2_with (go_at_call 10; refine HCD.out.mono ?_; rintro e wd ⟨rfl, hkA⟩)
                go_roundg (n - (id + 1))
                case measure => omega
                case rel =>
                  refine ⟨id + 1, hidl, rfl, by go_num, rfl, HKR.out.trans ((HKB0.out.trans hkA).mono (fun _ _ _ => trivial)), ?_⟩
                  rw [← rF_false _ n id HEX.out]
                  exact (HKB0.out.trans hkA).row HRW.out trivial
            · obtain ⟨hx1, hx2⟩ := chg_out (ms := ms k) (ms' := ms (1 - k)) (i := id) (fun j hj => by rw [← HNM.out]; exact hno j hj)
              have HEX : Hid (expB (ms k) (ms (1 - k)) id = true) := hx1
              obtain rfl : cb = false := by rw [HCB.out]; exact hx2
              clear hx1 hx2 hno
              go_wp2_with fail
              go_quiet (fail)
              have HKB : Hid (Kp (fun _ => True) wr (wa.drewN nq)) := HKA.out.trans ((Kp.refl _ _).drewN _)
              have n2' : (wa.drewN nq).cell? ⟨B14, 2, none⟩ = some (.bool false) := n2
              clear n0 n2 nl m0 ml hrun HBA HKA HK0 HCB HNM HKY hid3
              generalize wa.drewN nq = wb at *
              have nl := World.block_lt_of_cell? wb _ n2'
              have HK7 : Hid (Kp (fun z => z ≠ G) w6 wb) := HKR.out.trans (HKB.out.mono (fun _ _ _ => trivial))
              have HR7 : Hid (wb.heap[G]? = some (.cells (rowF n (rF (expB (ms k) (ms (1 - k))) id)).toArray 4 (0, 0))) := HKB.out.row HRW.out trivial
              have HR8 : Hid ((wb.setCell ⟨G, id, none⟩ (.bool true)).heap[G]? = some (.cells (rowF n (rF (expB (ms k) (ms (1 - k))) (id + 1))).toArray 4 (0, 0))) := by
                rw [Hid, ← rF_true _ n id HEX.out]; exact set_row HR7.out id (.bool true)
              obtain ⟨_, x4, xf, xl⟩ := sbk_cells (HIN.out wb HK7.out).2
              have g0 : wb.cell? ⟨G, id, none⟩ = some (rF (expB (ms k) (ms (1 - k))) id id) := by
                rw [cell_of_row wb G id _ 4 (0, 0) HR7.out]; simpa using rowF_get n _ id hidl
              have gf := frozen_of_row wb G id _ 4 HR7.out
              have gl := lt_of_row HR7.out
              generalize rF (expB (ms k) (ms (1 - k))) id id = gv at g0
              go_wp2_with fail
              go_roundg (n - (id + 1))
              case measure => omega
              case rel => exact ⟨id + 1, hidl, rfl, by go_num, rfl, HK7.out.setCell (.inl (fun h => h rfl)) _, HR8.out⟩
          · obtain rfl : id = n := by omega
            have HOF : Hid (OI w0 w S P c ms (k + 1) wr) := HST.out wr HKR.out (by rw [← rF_end]; exact HRW.out)
            clear HIN HST HRW HKR
            go_wp2_with fail
            go_roundg (2 - (k + 1))
            case measure => omega
            case rel => exact ⟨k + 1, hk2, rfl, by go_num, HOF.out⟩
    · obtain rfl : k = 2 := by omega
      clear hk2 hk
      go_wp2_with fail
      obtain ⟨wn, rfl⟩ : ∃ wn, wn = wo := ⟨wo, rfl⟩
      go_loopg [128] 2 (fun g iv wr => ∃ k : Nat, k ≤ 2 ∧ g = 2 - k ∧ iv = .int .i64 k ∧ OI w0 w S P c ms 2 wr)
      case atStart => exact ⟨0, Nat.zero_le _, rfl, rfl, HO.out⟩
      case round =>
        clear HO
        obtain ⟨k, hk, rfl, rfl, hoi⟩ := hrel
        obtain ⟨wo, rfl⟩ : ∃ wo, wo = wr := ⟨wr, rfl⟩
        have HO : Hid (OI w0 w S P c ms 2 wo) := hoi
        clear hoi
        by_cases hk2 : k < 2
        · have hk2' : (k : Int) < 2 := by omega
          go_upto_region 21 with fail
          go_cut [18] (fun v wx => ∃ B, v = .pointer (some ⟨B, 0, none⟩) ∧ Kp (fun _ => True) wo wx ∧ wx.cell? ⟨B, 0, none⟩ = some (.pointer (some ⟨S k, 0, none⟩)) ∧ wx.cell? ⟨B, 1, none⟩ = some (.pointer (some ⟨S (1 - k), 0, none⟩)))
          case first =>
            have hcc : k = 0 ∨ k = 1 := by omega
            rcases hcc with rfl | rfl
            · go_wp2_with ((with_reducible show wpList _ _ _ (Oper.mk _ (Op.index 94 _ _) _ _ _ _ :: _) _ _); refine wpList_index rfl 94 _ _ rfl _ (idx94a _ _ _ _ _) ?_)
              go_meet
              case rel => exact ⟨_, rfl, (Kp.refl _ _).alloc _, (two_cells (heap_alloc_new wo _)).1, (two_cells (heap_alloc_new wo _)).2⟩
            · go_wp2_with ((with_reducible show wpList _ _ _ (Oper.mk _ (Op.index 94 _ _) _ _ _ _ :: _) _ _); refine wpList_index rfl 94 _ _ rfl _ (idx94b _ _ _ _ _) ?_)
              go_meet
              case rel => exact ⟨_, rfl, (Kp.refl _ _).alloc _, (two_cells (heap_alloc_new wo _)).1, (two_cells (heap_alloc_new wo _)).2⟩
          case rest =>
            obtain ⟨B, rfl, hkc, b0, b1⟩ := hcut
            have HO1 : Hid (OI w0 w S P c ms 2 wc) := oi_keep HO.out hkc
            clear HO hkc
            have h1k : 1 - k < 2 := by omega
            obtain ⟨vs, hs1, hs2⟩ := HO1.out.2.2 k hk2
            obtain ⟨G, rfl, hGR⟩ := hs2 hk2
            obtain ⟨vt, ht1, ht2⟩ := HO1.out.2.2 (1 - k) h1k
            obtain ⟨Gt, rfl, hGRt⟩ := ht2 h1k
            obtain ⟨n, hn⟩ : ∃ n, n = 3 + (ms k).length := ⟨_, rfl⟩
            obtain ⟨nt, hnt⟩ : ∃ n, n = 3 + (ms (1 - k)).length := ⟨_, rfl⟩
            rw [← hn] at hs1 hGR
            rw [← hnt] at ht1 hGRt
            have HS1 : Hid (SBk wc (S k) (P k) c (.slice (some ⟨G, 0, none⟩) n n)) := hs1
            have HT1 : Hid (SBk wc (S (1 - k)) (P (1 - k)) c (.slice (some ⟨Gt, 0, none⟩) nt nt)) := ht1
            have HGR : Hid (wc.heap[G]? = some (.cells (rowF n (fun i => .bool (expB (ms k) (ms (1 - k)) i))).toArray 4 (0, 0))) := hGR.2.2.2
            have HGT : Hid (wc.heap[Gt]? = some (.cells (rowF nt (fun i => .bool (expB (ms (1 - k)) (ms (1 - (1 - k))) i))).toArray 4 (0, 0))) := hGRt.2.2.2
            have HKK : Hid (1 - (1 - k) = k) := by rw [Hid]; omega
            have HN : Hid (n = 3 + (ms k).length) := hn
            have HNT : Hid (nt = 3 + (ms (1 - k)).length) := hnt
            have hn5 : n ≤ 5000 := by have := HL.out k hk2; omega
            have hnt5 : nt ≤ 5000 := by have := HL.out (1 - k) h1k; omega
            clear hs1 ht1 hs2 ht2 hGR hGRt hn hnt
            obtain ⟨s0, s4, sf, sl⟩ := sbk_cells HS1.out
            obtain ⟨t0, t4, tf, tl⟩ := sbk_cells HT1.out
            have bB := World.block_lt_of_cell? wc _ b0
            clear sf tf t4
            go_wp2_with fail
            go_quiet (fail)
            have s0' : (wc.drewN nq).cell? ⟨S k, 0, none⟩ = some (.pointer (some ⟨P k, 0, none⟩)) := s0
            have t0' : (wc.drewN nq).cell? ⟨S (1 - k), 0, none⟩ = some (.pointer (some ⟨P (1 - k), 0, none⟩)) := t0
            have s4' : (wc.drewN nq).cell? ⟨S k, 4 + c, none⟩ = some (.slice (some ⟨G, 0, none⟩) n n) := s4
            have kq1 : Hid (Kp (fun _ => True) wc (wc.drewN nq)) := (Kp.refl _ _).drewN _
            clear s0 t0 s4 sl tl b0 b1 bB
            generalize wc.drewN nq = wx at *
            have sl := World.block_lt_of_cell? wx _ s0'
            have tl := World.block_lt_of_cell? wx _ t0'
            go_wp2_with fail
            go_quiet (fail)
            have s4 : (wx.drewN nq).cell? ⟨S k, 4 + c, none⟩ = some (.slice (some ⟨G, 0, none⟩) n n) := s4'
            have kq2 : Hid (Kp (fun _ => True) wc (wx.drewN nq)) := kq1.out.trans ((Kp.refl _ _).drewN _)
            clear s0' t0' s4' sl tl kq1
            generalize wx.drewN nq = wl at *
            have sl := World.block_lt_of_cell? wl _ s4
            go_wp2_with fail
            clear s4 sl
            have HOL : Hid (OI w0 w S P c ms 2 wl) := oi_keep HO1.out kq2.out
            have HSL : Hid (SBk wl (S (1 - k)) (P (1 - k)) c (.slice (some ⟨Gt, 0, none⟩) nt nt)) := sbk_kp HT1.out kq2.out trivial
            have HGL : Hid (wl.heap[G]? = some (.cells (rowF n (fun i => .bool (expB (ms k) (ms (1 - k)) i))).toArray 4 (0, 0))) := kq2.out.row HGR.out trivial
            have HGTL : Hid (wl.heap[Gt]? = some (.cells (rowF nt (fun i => .bool (expB (ms (1 - k)) (ms k) i))).toArray 4 (0, 0))) := by
              have h := kq2.out.row HGT.out trivial
              rw [HKK.out] at h
              exact h
            clear HS1 HT1 HGR HGT HO1 kq2 HKK
            go_loopg [158] n (fun g iv wr => ∃ id : Nat, id ≤ n ∧ g = n - id ∧ iv = .int .i64 id ∧ Kp (fun _ => True) wl wr)
            case atStart => exact ⟨0, Nat.zero_le _, rfl, rfl, Kp.refl _ _⟩
            case round =>
              obtain ⟨id, hid, rfl, rfl, hkr⟩ := hrel
              have HKR : Hid (Kp (fun _ => True) wl wr) := hkr
              clear hkr
              by_cases hidl : id < n
              · have hidl' : (id : Int) < (n : Int) := by omega
                have HK0 : Hid (Kp (fun _ => True) w0 wr) := HOL.out.1.trans HKR.out
                have hid3 : id < 3 + (ms k).length := by have := HN.out; omega
                have HID : Hid (id < 3 + (ms k).length) := hid3
                have hrow := HKR.out.row HGL.out trivial
                have g0 : wr.cell? ⟨G, id, none⟩ = some (.bool (expB (ms k) (ms (1 - k)) id)) := by
                  rw [cell_of_row wr G id _ 4 (0, 0) hrow]; simpa using rowF_get n _ id hidl
                have gl := lt_of_row hrow
                obtain ⟨fb, hfb⟩ : ∃ x, x = expB (ms k) (ms (1 - k)) id := ⟨_, rfl⟩
                rw [← hfb] at g0
                have HFB : Hid (fb = expB (ms k) (ms (1 - k)) id) := hfb
                have pqk := pq_kp (HQ.out k hk2) HK0.out
                have pqt := pq_kp (HQ.out (1 - k) h1k) HK0.out
                have e0 := (pqk.ns.ent id hid3).1
                have ev := pqk.ns.ev
                have m0 := pqt.mc
                have evt := pqt.ns.ev
                have HKY : Hid (keyOf Ybad.prog 9 (.string (en (ms k) id)) = some (klE (en (ms k) id))) := key_en (ms k) id
                obtain ⟨nmv, hnm⟩ : ∃ x, x = en (ms k) id := ⟨_, rfl⟩
                rw [← hnm] at e0 HKY
                have HNM : Hid (nmv = en (ms k) id) := hnm
                rw [← HN.out] at ev
                rw [← HNT.out] at evt
                clear hrow hfb hnm hid3
                have lk0 := look_pq pqt nmv HKY.out
                have HPT : Hid (PQ wr (P (1 - k)) (1 + c * 23) (E (1 - k)) (ecap (1 - k)) (L (1 - k)) (M (1 - k)) (D (1 - k)) (ms (1 - k))) := pqt
                clear pqk pqt HKY
                have l1 := World.block_lt_of_cell? wr _ e0
                have l2 := World.block_lt_of_cell? wr _ ev
                have l3 := World.block_lt_of_cell? wr _ m0
                generalize M (1 - k) = Mt at *
                rcases lk0 with ⟨j, hj, hej, hrun⟩ | ⟨hno, hrun⟩
                · have HCJ := fun (h : fb = true) => chg_back (HG.out k hk2) (HG.out (1 - k) h1k) HID.out hj (hej.trans HNM.out) (by rw [← HFB.out]; exact h)
                  have HCJ' : Hid (fb = true → expB (ms (1 - k)) (ms k) j = true) := HCJ
                  have hjt : j < nt := by have := HNT.out; omega
                  have HJ : Hid (j < 3 + (ms (1 - k)).length) := hj
                  have hjt' : (j : Int) < (nt : Int) := by omega
                  have ec := (HPT.out.ns.ent j hj).2.2.1
                  have l4 := World.block_lt_of_cell? wr _ ec
                  clear HCJ hej hj
                  cases fb
                  · clear ec l4 evt HCJ' HPT
                    go_wp2_with fail
                    go_quiet (fail)
                    go_wp2_with fail
                    go_roundg (n - (id + 1))
                    case measure => omega
                    case rel => exact ⟨id + 1, hidl, rfl, by go_num, HKR.out.drewN _⟩
                  · have hex := HCJ'.out rfl
                    have hj3 : decide (j < 3) = false := by
                      unfold expB at hex
                      simp at hex
                      simp; omega
                    rw [hj3] at ec
                    have HEX : Hid (expB (ms (1 - k)) (ms k) j = true) := hex
                    clear hex hj3
                    go_wp2_with fail
                    go_quiet (fail)
                    have ec' : (wr.drewN nq).cell? ⟨E (1 - k), j * 4 + 2, none⟩ = some (.bool false) := ec
                    have evt' : (wr.drewN nq).cell? ⟨P (1 - k), 1 + c * 23 + 1, none⟩ = some (.slice (some ⟨E (1 - k), 0, none⟩) nt (ecap (1 - k))) := evt
                    have HKB : Hid (Kp (fun _ => True) wl (wr.drewN nq)) := HKR.out.drewN _
                    clear ec evt g0 gl e0 ev m0 l1 l2 l3 l4 hrun
                    generalize wr.drewN nq = wb at *
                    have l4 := World.block_lt_of_cell? wb _ ec'
                    have l5 := World.block_lt_of_cell? wb _ evt'
                    obtain ⟨_, x4, xf, xl⟩ := sbk_cells (sbk_kp HSL.out HKB.out trivial)
                    have hrow := HKB.out.row HGTL.out trivial
                    have y0 : wb.cell? ⟨Gt, j, none⟩ = some (.bool (expB (ms (1 - k)) (ms k) j)) := by
                      rw [cell_of_row wb Gt j _ 4 (0, 0) hrow]; simpa using rowF_get nt _ j hjt
                    have yf := frozen_of_row wb Gt j _ 4 hrow
                    have yl := lt_of_row hrow
                    have HKF : Hid (Kp (fun _ => True) wl (wb.setCell ⟨Gt, j, none⟩ (.bool true))) := HKB.out.trans (kp_same hrow HEX.out)
                    clear hrow xf
                    generalize expB (ms (1 - k)) (ms k) j = yv at y0
                    go_wp2_with fail
                    go_roundg (n - (id + 1))
                    case measure => omega
                    case rel => exact ⟨id + 1, hidl, rfl, by go_num, HKF.out⟩
                · clear hno evt HPT
                  cases fb
                  all_goals
                    go_wp2_with fail
                    go_quiet (fail)
                    go_wp2_with fail
                    go_roundg (n - (id + 1))
                    case measure => omega
                    case rel => exact ⟨id + 1, hidl, rfl, by go_num, HKR.out.drewN _⟩
              · obtain rfl : id = n := by omega
                have HOF : Hid (OI w0 w S P c ms 2 wr) := oi_keep HOL.out HKR.out
                clear HOL HSL HGL HGTL HKR
                go_wp2_with fail
                go_roundg (2 - (k + 1))
                case measure => omega
                case rel => exact ⟨k + 1, hk2, rfl, by go_num, HOF.out⟩
        · obtain rfl : k = 2 := by omega
          go_wp2_with fail
          go_end0
          exact ⟨⟨_, rfl⟩, HO.out⟩
end Go.Proofs.YbulkawhcDoor.Ch
