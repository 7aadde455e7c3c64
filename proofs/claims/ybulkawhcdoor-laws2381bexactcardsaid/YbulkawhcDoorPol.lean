import Derived.Test.YbulkawhcDoorPolA
namespace Go.Proofs.YbulkawhcDoor.Po
open Go.ChangeShapes Go.WideShapes Go.ChangeAt Go.RowKit Go.Maps Go.Proofs.YbulkawhcDoor.Lw Go.Proofs.YbulkawhcDoor Go.Proofs.YbulkawhcDoor.Pl Go.Proofs.YbulkawhcDoor.Se Go.Proofs.YbulkawhcDoor.De Go.Proofs.YbulkawhcDoor.Me
theorem ps_cells {w0 wr : World} {N M L : Nat} {ev : Value} {D : DataW Unit} {n km ke kl : Nat} {ms : List Mem} (h : PS w0 wr N M L ev D n km ke kl ms) :
    wr.cell? ⟨N, 0, none⟩ = some (.map (some M)) ∧ wr.cell? ⟨N, 1, none⟩ = some ev ∧ wr.cell? ⟨N, 3, none⟩ = some (.slice (some ⟨L, 0, none⟩) n n) ∧ wr.frozen? ⟨N, 1, none⟩ = false ∧ N < wr.heap.size := by
  refine ⟨?_, ?_, ?_, frozen_of_row wr N 1 _ 74 h.nb, lt_of_row h.nb⟩
  · rw [cell_of_row wr N 0 _ 74 (0, 0) h.nb]; rfl
  · rw [cell_of_row wr N 1 _ 74 (0, 0) h.nb]; rfl
  · rw [cell_of_row wr N 3 _ 74 (0, 0) h.nb]; rfl
theorem ps_lcell {w0 wr : World} {N M L : Nat} {ev : Value} {D : DataW Unit} {n km ke kl : Nat} {ms : List Mem} (h : PS w0 wr N M L ev D n km ke kl ms) {i : Nat} (hi : i < n) :
    (∃ v, wr.cell? ⟨L, i, none⟩ = some v) ∧ wr.frozen? ⟨L, i, none⟩ = false ∧ L < wr.heap.size := by
  obtain ⟨lf, l1, _⟩ := h.lr
  refine ⟨⟨lf i, ?_⟩, frozen_of_row wr L i _ 37 l1, lt_of_row l1⟩
  rw [cell_of_row wr L i _ 37 (0, 0) l1]
  simpa using rowF_get n lf i hi

theorem wf_i64 (k : Nat) (h : k ≤ 10000) : (Lit.int .i64 (k : Int)).wf = true := by
  have h1 : IntKind.i64.min = -9223372036854775808 := by decide
  have h2 : IntKind.i64.max = 9223372036854775807 := by decide
  simp only [Lit.wf, h1, h2, Bool.and_eq_true, decide_eq_true_eq]
  omega
theorem wf_i64' (z : Int) (h0 : 0 ≤ z) (h : z ≤ 10000) : (Lit.int .i64 z).wf = true := by
  have h1 : IntKind.i64.min = -9223372036854775808 := by decide
  have h2 : IntKind.i64.max = 9223372036854775807 := by decide
  simp only [Lit.wf, h1, h2, Bool.and_eq_true, decide_eq_true_eq]
  omega
theorem cls_own {w : World} {base : Nat} {v : Value} {xs : List Nat} (h : w.ownsRow base 3 1 v xs.length (xs.map fun x : Nat => Value.int .i64 (x : Int))) :
    ∃ la lc, v = .slice la xs.length lc ∧ ∀ t, t < xs.length → ∃ g, la = some ⟨g, 0, none⟩ ∧ base ≤ g ∧ w.cell? ⟨g, t, none⟩ = some (.int .i64 (xs.getD t 0 : Int)) := by
  obtain ⟨ua, cap, e, hc⟩ := own_cells h
  refine ⟨ua, cap, e, fun t ht => ?_⟩
  obtain ⟨g, e1, e2, _, e4⟩ := hc t (.int .i64 (xs.getD t 0 : Int)) (by simp [List.getD, ht])
  exact ⟨g, e1, e2, e4⟩
theorem bt_app {w : World} {base : Nat} {v : Value} {m t : Nat} (hm : m < 8) (ht : t < 3) (hb : tb m t = true) (h : w.ownsRow base 3 1 v ((bt m t).length + 1) ((bt m t).map (fun x : Nat => Value.int .i64 (x : Int)) ++ [.int .i64 (t : Int)])) :
    w.ownsRow base 3 1 v (bt m (t + 1)).length ((bt m (t + 1)).map fun x : Nat => Value.int .i64 (x : Int)) := by
  rw [bt_step m t hm ht, if_pos hb]
  simpa using h
theorem bt_same {m t : Nat} (hm : m < 8) (ht : t < 3) (hb : tb m t = false) : bt m (t + 1) = bt m t := by
  rw [bt_step m t hm ht, if_neg (by simp [hb])]
theorem Kp.setCells {p : Nat → Prop} {b : Nat} {a : World} : ∀ (vs : List Value) (o : Nat) {w : World}, Kp p a w → (¬ p b ∨ a.heap.size ≤ b) → Kp p a (w.setCells b o vs)
  | [], _, _, h, _ => h
  | v :: r, o, w, h, hb => by
    rw [World.setCells]
    exact Kp.setCells r (o + 1) (h.setCell (q := ⟨b, o, none⟩) hb v) hb
/-- A namespace that is laid, with its map. -/
structure PQ (w : World) (P off E ecap L M : Nat) (D : DataW Unit) (ms : List Mem) : Prop where
  ns : NS w P off E ecap (3 + ms.length) L ms
  mc : w.cell? ⟨P, off, none⟩ = some (.map (some M))
  mo : w.ownsMap Ybad.prog 9 (plainElem (H := Unit) Ybad.prog 3) M (3 + ms.length) D
  md : Mp D ms (3 + ms.length)
theorem pq_kp {w w1 : World} {P off E ecap L M : Nat} {D : DataW Unit} {ms : List Mem} (h : PQ w P off E ecap L M D ms) (hk : Kp (fun _ => True) w w1) : PQ w1 P off E ecap L M D ms :=
  ⟨ns_kp h.ns hk, cell_kp hk h.mc trivial, own_map_kp h.mo hk, h.md⟩
theorem zc_size : Ybad.zeroCells92.size = 85 := by kernel_rfl
theorem there92 (w : World) (P o : Nat) (ho : o + 23 ≤ 85) (h : w.heap[P]? = some (.cells Ybad.zeroCells92 92 (0, 0))) : w.there P o 23 := fun j hj => by
  refine ⟨?_, frozen_of_row w P (o + j) _ 92 h⟩
  rw [cell_of_row w P (o + j) _ 92 (0, 0) h]
  rw [Array.getElem?_eq_getElem (by rw [zc_size]; omega)]
  rfl
theorem ps_end {w wo wf : World} {N M L o : Nat} {ua : Option Addr} {ecap : Nat} {D : DataW Unit} {ms : List Mem} (hn : ms.length ≤ 1024)
    (h : PS w wo N M L (.slice ua (3 + ms.length) ecap) D (3 + ms.length) (3 + ms.length) (3 + ms.length) (3 + ms.length) ms) (hk : Kp (fun _ => True) wo wf) (P : Nat)
    (hr : wf.rangeAt P o (ncs M (.slice ua (3 + ms.length) ecap) (.slice (some ⟨L, 0, none⟩) (3 + ms.length) (3 + ms.length)))) :
    ∃ E, PQ wf P o E ecap L M D ms := by
  obtain ⟨ua', cap', e, huc⟩ := own_cells h.eo
  simp only [Value.slice.injEq] at e
  obtain ⟨rfl, _, rfl⟩ := e
  obtain ⟨E, rfl, _, _, _⟩ := huc 0 _ (show _ = some (Value.string (en ms 0)) from by rw [← Nat.zero_mul 4, ← Nat.add_zero (0 * 4), erow_get ms (3 + ms.length) 0 0 (by omega) (by omega)]; rfl)
  have hc : ∀ i t u, i < 3 + ms.length → t < 4 → (ecells ms i)[t]? = some u → wf.cell? ⟨E, i * 4 + t, none⟩ = some u := fun i t u hi ht hu => by
    obtain ⟨g, e1, _, _, e4⟩ := huc (i * 4 + t) u (by rw [erow_get ms _ i t hi ht]; exact hu)
    obtain rfl : E = g := by simpa using e1
    exact cell_kp hk e4 trivial
  obtain ⟨lf, l1, l2, l3⟩ := h.lr
  refine ⟨E, ⟨⟨rfl, by omega, hr 1 _ rfl, hr 3 _ rfl, hr 5 _ rfl, hr 6 _ rfl, fun i hi => ⟨hc i 0 _ hi (by omega) rfl, hc i 1 _ hi (by omega) rfl, hc i 2 _ hi (by omega) rfl, hc i 3 _ hi (by omega) rfl⟩, fun i hi => ?_⟩, hr 0 _ rfl, own_map_kp h.mo hk, h.md⟩⟩
  obtain ⟨la, lc, e, hg⟩ := l2 i hi
  refine ⟨la, lc, ?_, fun t ht => ?_⟩
  · have : wo.cell? ⟨L, i, none⟩ = some (lf i) := by
      rw [cell_of_row wo L i _ 37 (0, 0) l1]; simpa using rowF_get _ lf i hi
    rw [← e]; exact cell_kp hk this trivial
  · obtain ⟨g, e1, _, _, _, _, e6⟩ := hg t ht
    exact ⟨g, e1, cell_kp hk e6 trivial⟩
theorem ps_start {w w3 : World} {N M L E0 n : Nat} {ms : List Mem} (hk : Kp (fun _ => True) w w3) (hN : w3.heap[N]? = some (.cells (ncs M (.slice (some ⟨E0, 0, none⟩) 0 n) (.slice none 0 0)).toArray 74 (0, 0)))
    (hE : w3.ownsRow w.heap.size 77 4 (.slice (some ⟨E0, 0, none⟩) 0 n) 0 []) (hM : w3.ownsMap Ybad.prog 9 (plainElem (H := Unit) Ybad.prog 3) M 0 (.map [])) (hL : w3.heap[L]? = some (.cells (List.replicate n (.slice none 0 0)).toArray 37 (0, 0)))
    (e1 : N ≠ M) (e2 : N ≠ L) (e3 : M ≠ L) (e4 : N ≠ E0) (e5 : M ≠ E0) (e6 : L ≠ E0) (b1 : w.heap.size ≤ N) (b2 : w.heap.size ≤ M) (b3 : w.heap.size ≤ L) :
    PS w (w3.setCell ⟨N, 3, none⟩ (.slice (some ⟨L, 0, none⟩) n n)) N M L (.slice (some ⟨E0, 0, none⟩) 0 n) (.map []) n 0 0 3 ms := by
  have hk' : Kp (fun k => k ≠ N) w3 (w3.setCell ⟨N, 3, none⟩ (.slice (some ⟨L, 0, none⟩) n n)) := (Kp.refl _ _).setCell (.inl (fun h => h rfl)) _
  refine ⟨set_row hN 3 _, own_kp hE hk' (fun b hb => by simp [Value.ownBlock] at hb; subst hb; exact Ne.symm e4), hM.setCell (a := ⟨N, 3, none⟩) (Ne.symm e1) _, mp_start ms, ⟨fun _ => .slice none 0 0, ?_, fun i hi => ⟨none, 0, ?_, fun t ht => ?_⟩, fun i _ => rfl⟩, e1, e2, e3, ?_, ?_, ?_, b1, b2, b3, ?_⟩
  · rw [← rowF_rep]; exact hk'.row hL (Ne.symm e2)
  · simp [cls, hi]
  · simp [cls, hi] at ht
  · simpa [Value.ownBlock] using e4
  · simpa [Value.ownBlock] using e5
  · simpa [Value.ownBlock] using e6
  · exact hk.setCell (.inr b1) _

set_option maxRecDepth 100000 in
set_option maxHeartbeats 8000000 in
theorem policy (c : Nat) (hc : c < 3) (xa : Option Addr) (xc : Nat) (ms : List Mem) (w : World) (hx : SR w xa ms) (hn : ms.length ≤ 1024) (gx : Pl.Good ms) :
    Calls Ybad.prog 6 #[.int .i64 (c : Int), .slice xa ms.length xc] w fun e w' => ∃ P E ecap L M D, e = .returned (.pointer (some ⟨P, 0, none⟩)) ∧ PQ w' P (1 + c * 23) E ecap L M D ms ∧ Kp (fun _ => True) w w' := by
  obtain ⟨i77, ti, tz0, tz1, tz2⟩ := info_parts info77
  obtain ⟨i37, si, sz0, sz1, sz2⟩ := info_parts info37
  obtain ⟨i3, ri, rz0, rz1, rz2⟩ := info_parts info3
  have HX : Hid (SR w xa ms) := hx
  have GX : Hid (Pl.Good ms) := gx
  clear hx gx
  have hmm := @run_makeMap Ybad.prog
  go_enter Ybad.func6, Ybad.ntmps6
  go_wp2_with (first
    | (at_make; refine wpList_make_own _ rfl _ _ 56 rfl w.heap.size 77 i77 (.agg #[.string ⟨#[]⟩, .int .i64 0, .bool false, .slice none 0 0]) 4 Ybad.underlying56 ti tz0 tz1 _ _ _ (3 + ms.length) rfl rfl ?a1 ?a2 ?a3 ?a4 ?_))
  case a1 => omega
  case a2 => rw [tz2]; omega
  case a3 => unfold maxLen; omega
  case a4 => simp
  intro w1 hown1 hgrow1
  have hk1 : Hid (Kp (fun _ => True) (w.alloc (.map #[] 0)) w1) := ⟨hgrow1.os, hgrow1.tape, hgrow1.output, hgrow1.size, fun i hi _ => hgrow1.block i hi (by simp)⟩
  have HO1 : Hid (w1.ownsRow w.heap.size 77 4 (.slice (some ⟨w.heap.size + 1, 0, none⟩) 0 (3 + ms.length)) 0 []) := by rw [Hid]; simpa using hown1
  have HM1 : Hid (w1.ownsMap Ybad.prog 9 (plainElem (H := Unit) Ybad.prog 3) w.heap.size 0 (.map [])) := own_map_kp (World.ownsMap_made w _ _ _) hk1.out
  clear hown1 hgrow1 hmm
  go_wp2_with (first
    | ((with_reducible show wpList _ _ _ (Oper.mk _ (Op.store 74 _ _) _ _ _ _ :: _) _ _); refine wpList_store_new rfl 74 _ _ rfl 74 _ (ncs w.heap.size (.slice (some ⟨w.heap.size + 1, 0, none⟩) 0 (3 + ms.length)) (.slice none 0 0)) rfl rfl size74 rfl (ncs_one _ _ _ _ _ _ _) ?_))
  intro w2 hb2 hk2 hs2
  have HB2 : Hid (w2.heap[w1.heap.size]? = some (.cells (ncs w.heap.size (.slice (some ⟨w.heap.size + 1, 0, none⟩) 0 (3 + ms.length)) (.slice none 0 0)).toArray 74 (0, 0))) := hb2
  have HK2 : Hid (Kp (fun _ => True) w1 w2) := hk2
  have HS1 : Hid (w1.heap.size ≥ w.heap.size + 2 ∧ w2.heap.size = w1.heap.size + 1) := ⟨by have h1 := (own_lt HO1.out (g := w.heap.size + 1) rfl).2; omega, hs2⟩
  clear hb2 hk2 hs2
  go_wp2_with (at_make; refine wpList_make_row _ rfl _ _ 58 rfl 37 i37 (.slice none 0 0) 24 Ybad.underlying58 si sz0 sz1 sz2 rfl _ _ _ _ (3 + ms.length) rfl rfl ?d1 ?d2 ?d3 ?d4 ?_)
  case d1 => omega
  case d2 => omega
  case d3 => omega
  case d4 => unfold maxLen; omega
  intro w3 hrow3 hk3 hs3
  have nb3 := hk3.row HB2.out trivial
  have hl3 := lt_of_row nb3
  have c33 : w3.cell? ⟨w1.heap.size, 3, none⟩ = some (.slice none 0 0) := by rw [cell_of_row w3 _ 3 _ 74 (0, 0) nb3]; rfl
  have f33 := frozen_of_row w3 w1.heap.size 3 _ 74 nb3
  have hr3 : w3.heap[w2.heap.size]? = some (.cells (List.replicate (3 + ms.length) (.slice none 0 0)).toArray 37 (0, 0)) := by simpa using hrow3
  have PS0 : Hid (PS w (w3.setCell ⟨w1.heap.size, 3, none⟩ (.slice (some ⟨w2.heap.size, 0, none⟩) (3 + ms.length) (3 + ms.length))) w1.heap.size w.heap.size w2.heap.size (.slice (some ⟨w.heap.size + 1, 0, none⟩) 0 (3 + ms.length)) (.map []) (3 + ms.length) 0 0 3 ms) := by
    have h1 := HS1.out
    have hka : Kp (fun _ => True) w1 w3 := HK2.out.trans hk3
    exact ps_start ((((Kp.refl _ w).alloc _).trans hk1.out).trans hka) nb3 (own_kp HO1.out hka (fun _ _ => trivial)) (own_map_kp HM1.out hka) hr3 (by omega) (by omega) (by omega) (by omega) (by omega) (by omega) (by omega) (by omega) (by omega)
  clear HB2 HK2 HS1 hrow3 hk3 hr3 nb3 HO1 HM1 hs3
  generalize w1.heap.size = N at *
  generalize w2.heap.size = L at *
  go_wp2_with fail
  generalize w3.setCell ⟨N, 3, none⟩ (.slice (some ⟨L, 0, none⟩) (3 + ms.length) (3 + ms.length)) = w4 at *
  clear c33 f33 hl3 hk1
  go_loopg [7] 3 (fun g iv wr => ∃ (k : Nat) (ev : Value) (D : DataW Unit), k ≤ 3 ∧ g = 3 - k ∧ iv = .int .i64 k ∧ PS w wr N w.heap.size L ev D (3 + ms.length) k k 3 ms)
  case atStart => exact ⟨0, _, _, Nat.zero_le _, rfl, rfl, PS0.out⟩
  case round =>
    obtain ⟨k, ev, D, hk, rfl, rfl, hps⟩ := hrel
    obtain ⟨wo, rfl⟩ : ∃ wo, wo = wr := ⟨wr, rfl⟩
    have HP : Hid (PS w wo N w.heap.size L ev D (3 + ms.length) k k 3 ms) := hps
    clear hps PS0
    by_cases hlt : k < 3
    · have hlt' : (k : Int) < 3 := by omega
      go_upto_region 7 with fail
      go_cut [8] (fun v wx => v = .string (en ms k) ∧ Kp (fun _ => True) wo wx)
      case first =>
        have hcc : k = 0 ∨ k = 1 ∨ k = 2 := by omega
        have he : Hid (en ms k = kn k) := by unfold Hid en; rw [if_pos hlt]
        rcases hcc with rfl | rfl | rfl
        all_goals
          have hcv0 := conv2 wo 107 48 107 48 rfl rfl
          have hcv1 := conv2 wo 107 49 107 49 rfl rfl
          have hcv2 := conv2 wo 107 50 107 50 rfl rfl
          go_wp2_with fail
          go_meet
          case rel => exact ⟨by rw [he.out]; rfl, (Kp.refl _ _).alloc _⟩
      case rest =>
        obtain ⟨rfl, hkc⟩ := hcut
        have HP1 : Hid (PS w wc N w.heap.size L ev D (3 + ms.length) k k 3 ms) := ps_keep HP.out hkc
        clear HP hkc
        obtain ⟨c0, c1, c3, f1, hNl⟩ := ps_cells HP1.out
        have HKE : Hid (keyOf Ybad.prog 9 (.string (en ms k)) = some (klE (en ms k))) := key_en ms k
        have HEC : Hid (ecells ms k = [.string (en ms k), .int .i64 0, .bool true, .slice none 0 0]) := by rw [Hid, ecells]; simp [hlt]
        have HD1 : Hid (Mp (D.put (klE (en ms k)) (.lit (.int .i64 (k : Int)))) ms (k + 1)) := mp_step GX.out HP1.out.md (by omega)
        generalize en ms k = s at *
        go_wp2_with (at_mapUpdate; refine wpList_mapUpdate_own _ rfl _ _ _ 55 rfl 9 3 law9 Ybad.underlying55 _ w.heap.size k _ rfl HP1.out.mo (by unfold maxLen; omega) _ _ _ rfl rfl HKE.out (.lit (.int .i64 (k : Int))) [] (plainElem_int Ybad.underlying3 ?e1) ?_)
        case e1 => exact wf_i64 k (by omega)
        intro w5 hown5 hgrow5
        have HP2 : Hid (PS w w5 N w.heap.size L ev (D.put (klE s) (.lit (.int .i64 (k : Int)))) (3 + ms.length) (k + 1) k 3 ms) := ps_map HP1.out hgrow5 hown5 HD1.out
        clear hown5 hgrow5 HP1 HD1 c0 c1 c3 f1 hNl
        obtain ⟨c0, c1, c3, f1, hNl⟩ := ps_cells HP2.out
        go_wp2_with (at_builtin; refine wpList_append_lies _ rfl _ _ 56 rfl w.heap.size 77 i77 (.agg #[.string ⟨#[]⟩, .int .i64 0, .bool false, .slice none 0 0]) 4 56 Ybad.underlying56 ti tz0 tz1 tz2 rfl (by decide) _ k (erow ms k) rfl (HP2.out.eo.alloc _) ⟨w5.heap.size, 0, none⟩ 1 1 [.string s, .int .i64 0, .bool true, .slice none 0 0] rfl rfl (cells4 _ _ _ _ _ _) (one4 _ _ _) (by omega) ?e3 ?e4 ?e5 (w5.heap.size + 1) ?e6 ?_)
        case e3 => unfold maxLen; omega
        case e4 => omega
        case e5 => have := HP2.out.kp.size; simp; omega
        case e6 => simp
        intro g cap w6 hown6 hgrow6 hat6 hlt6
        have HP3 : Hid (PS w (w6.setCell ⟨N, 1, none⟩ (.slice (some ⟨g, 0, none⟩) (k + 1) cap)) N w.heap.size L (.slice (some ⟨g, 0, none⟩) (k + 1) cap) (D.put (klE s) (.lit (.int .i64 (k : Int)))) (3 + ms.length) (k + 1) (k + 1) 3 ms) := ps_ent HP2.out hgrow6 (by rw [HEC.out]; exact hown6) hat6
        have hk6 : Kp (fun z => some z ≠ ev.ownBlock) w5 w6 := ((Kp.refl _ _).alloc _).trans (Kp.ofGrown hgrow6)
        have c1' := cell_kp hk6 c1 HP2.out.ne
        have f1' : w6.frozen? ⟨N, 1, none⟩ = false := frozen_of_row w6 N 1 _ 74 (hk6.row HP2.out.nb HP2.out.ne)
        have hNl' := World.block_lt_of_cell? w6 _ c1'
        clear hown6 hgrow6 hat6 hlt6 hk6 HP2 c0 c1 c3 f1 hNl HEC HKE
        go_wp2_with fail
        go_roundg (3 - (k + 1))
        case measure => omega
        case rel => exact ⟨k + 1, _, _, hlt, rfl, by go_num, HP3.out⟩
    · obtain rfl : k = 3 := by omega
      clear hlt hk
      go_wp2_with fail
      obtain ⟨wn, rfl⟩ : ∃ wn, wn = wo := ⟨wo, rfl⟩
      go_loopg [48] ms.length (fun g iv wr => ∃ (j : Nat) (ev : Value) (D : DataW Unit), j ≤ ms.length ∧ g = ms.length - j ∧ iv = .int .i64 j ∧ PS w wr N w.heap.size L ev D (3 + ms.length) (3 + j) (3 + j) (3 + j) ms)
      case atStart => exact ⟨0, _, _, Nat.zero_le _, rfl, rfl, HP.out⟩
      case round =>
        clear HP ev D
        obtain ⟨j, ev, D, hj, rfl, rfl, hps⟩ := hrel
        obtain ⟨wo, rfl⟩ : ∃ wo, wo = wr := ⟨wr, rfl⟩
        have HP : Hid (PS w wo N w.heap.size L ev D (3 + ms.length) (3 + j) (3 + j) (3 + j) ms) := hps
        clear hps
        by_cases hjl : j < ms.length
        · have hjl' : (j : Int) < (ms.length : Int) := by omega
          obtain ⟨g1, rfl, h0, h1⟩ := HX.out j hjl
          have h0' := cell_kp HP.out.kp h0 trivial
          have h1' := cell_kp HP.out.kp h1 trivial
          have hgm := GX.out.lt (ms.getD j (0, 0)) (getD_mem hjl)
          have HEN : Hid (en ms (3 + j) = nm (ms.getD j (0, 0)).1) := by unfold Hid en; rw [if_neg (by omega), show 3 + j - 3 = j by omega]
          have HCL : Hid (cls ms (3 + j) = bitsL (ms.getD j (0, 0)).2) := by unfold Hid cls; rw [if_neg (by omega), show 3 + j - 3 = j by omega]
          have hl1 := World.block_lt_of_cell? wo _ h0'
          clear h0 h1
          generalize ms.getD j (0, 0) = m at *
          go_upto_region 14 with fail
          have ka : Hid (Kp (fun _ => True) wo (wo.alloc (.cells #[.string (nm m.1), .int .u8 (m.2 : Int)] 54))) := (Kp.refl _ _).alloc _
          have HB7 : Hid ((wo.alloc (.cells #[.string (nm m.1), .int .u8 (m.2 : Int)] 54)).heap[wo.heap.size]? = some (.cells #[.string (nm m.1), .int .u8 (m.2 : Int)] 54 (0, 0))) := heap_alloc_new wo _
          generalize wo.alloc (.cells #[.string (nm m.1), .int .u8 (m.2 : Int)] 54) = w2' at *
          have HBN : Hid (N < wo.heap.size ∧ w.heap.size < wo.heap.size ∧ ∀ z, some z = ev.ownBlock → z < wo.heap.size) := ⟨lt_of_row HP.out.nb, HP.out.mo.lt, fun z hz => (own_lt HP.out.eo hz.symm).2⟩
          have HP1 : Hid (PS w w2' N w.heap.size L ev D (3 + ms.length) (3 + j) (3 + j) (3 + j) ms) := ps_keep HP.out ka.out
          clear HP ka h0' h1' hl1
          generalize wo.heap.size = B7 at *
          obtain ⟨c0, c1, c3, f1, hNl⟩ := ps_cells HP1.out
          obtain ⟨m0, m1⟩ := two_cells HB7.out
          have hB7l := lt_of_row HB7.out
          have HKE : Hid (keyOf Ybad.prog 9 (.string (nm m.1)) = some (klE (nm m.1))) := by rw [Hid, ← HEN.out]; exact key_en ms (3 + j)
          have HEC : Hid (ecells ms (3 + j) = [.string (nm m.1), .int .i64 0, .bool false, .slice none 0 0]) := by rw [Hid, ecells, HEN.out]; simp
          have HD1 : Hid (Mp (D.put (klE (nm m.1)) (.lit (.int .i64 (3 + (j : Int))))) ms (3 + j + 1)) := by
            have := mp_step GX.out HP1.out.md (by omega)
            rw [HEN.out] at this
            rw [Hid]
            simpa using this
          have hwf := wf_i64' (3 + (j : Int)) (by omega) (by omega)
          have HWF : Hid ((Lit.int .i64 (3 + (j : Int))).wf = true) := hwf
          clear hwf
          go_wp2_with (at_mapUpdate; refine wpList_mapUpdate_own _ rfl _ _ _ 55 rfl 9 3 law9 Ybad.underlying55 _ w.heap.size (3 + j) _ rfl HP1.out.mo (by unfold maxLen; omega) _ _ _ rfl rfl HKE.out (.lit (.int .i64 (3 + (j : Int)))) [] (plainElem_int Ybad.underlying3 HWF.out) ?_)
          intro w5 hown5 hgrow5
          have HP2 : Hid (PS w w5 N w.heap.size L ev (D.put (klE (nm m.1)) (.lit (.int .i64 (3 + (j : Int))))) (3 + ms.length) (3 + j + 1) (3 + j) (3 + j) ms) := ps_map HP1.out hgrow5 hown5 HD1.out
          have HB8 : Hid (w5.heap[B7]? = some (.cells #[.string (nm m.1), .int .u8 (m.2 : Int)] 54 (0, 0))) := by
            rw [Hid, hgrow5.block B7 hB7l (by have := HBN.out.2.1; simp; omega)]; exact HB7.out
          clear hown5 hgrow5 HP1 HD1 c0 c1 c3 f1 hNl m0 m1 hB7l HB7
          obtain ⟨c0, c1, c3, f1, hNl⟩ := ps_cells HP2.out
          obtain ⟨m0, m1⟩ := two_cells HB8.out
          have hB7l := lt_of_row HB8.out
          go_wp2_with (at_builtin; refine wpList_append_lies _ rfl _ _ 56 rfl w.heap.size 77 i77 (.agg #[.string ⟨#[]⟩, .int .i64 0, .bool false, .slice none 0 0]) 4 56 Ybad.underlying56 ti tz0 tz1 tz2 rfl (by decide) _ (3 + j) (erow ms (3 + j)) rfl (HP2.out.eo.alloc _) ⟨w5.heap.size, 0, none⟩ 1 1 [.string (nm m.1), .int .i64 0, .bool false, .slice none 0 0] rfl rfl (cells4 _ _ _ _ _ _) (one4 _ _ _) (by omega) ?g3 ?g4 ?g5 (w5.heap.size + 1) ?g6 ?_)
          case g3 => unfold maxLen; omega
          case g4 => omega
          case g5 => have := HP2.out.kp.size; simp; omega
          case g6 => simp
          intro g cap w6 hown6 hgrow6 hat6 hlt6
          have HP3 : Hid (PS w (w6.setCell ⟨N, 1, none⟩ (.slice (some ⟨g, 0, none⟩) (3 + j + 1) cap)) N w.heap.size L (.slice (some ⟨g, 0, none⟩) (3 + j + 1) cap) (D.put (klE (nm m.1)) (.lit (.int .i64 (3 + (j : Int))))) (3 + ms.length) (3 + j + 1) (3 + j + 1) (3 + j) ms) := ps_ent HP2.out hgrow6 (by rw [HEC.out]; exact hown6) hat6
          have hk6 : Kp (fun z => some z ≠ ev.ownBlock) w5 w6 := ((Kp.refl _ _).alloc _).trans (Kp.ofGrown hgrow6)
          have c1' := cell_kp hk6 c1 HP2.out.ne
          have f1' : w6.frozen? ⟨N, 1, none⟩ = false := frozen_of_row w6 N 1 _ 74 (hk6.row HP2.out.nb HP2.out.ne)
          have hNl' := World.block_lt_of_cell? w6 _ c1'
          have HB9 : Hid ((w6.setCell ⟨N, 1, none⟩ (.slice (some ⟨g, 0, none⟩) (3 + j + 1) cap)).heap[B7]? = some (.cells #[.string (nm m.1), .int .u8 (m.2 : Int)] 54 (0, 0))) := by
            have h1 := HBN.out
            have k7 : Kp (fun z => z ≠ N) w6 (w6.setCell ⟨N, 1, none⟩ (.slice (some ⟨g, 0, none⟩) (3 + j + 1) cap)) := (Kp.refl _ _).setCell (.inl (fun h => h rfl)) _
            exact k7.row (hk6.row HB8.out (fun e => by have := h1.2.2 _ e; omega)) (by omega)
          clear hown6 hgrow6 hat6 hlt6 hk6 HP2 c0 c1 c3 f1 hNl HEC HKE m0 m1 hB7l HB8
          go_upto_region 16 with fail
          generalize w6.setCell ⟨N, 1, none⟩ (.slice (some ⟨g, 0, none⟩) (3 + j + 1) cap) = w7 at *
          clear c1' f1' hNl'
          obtain ⟨m0, m1⟩ := two_cells HB9.out
          have M1 : Hid (w7.cell? ⟨B7, 1, none⟩ = some (.int .u8 (m.2 : Int))) := m1
          clear m0 m1 HB9
          obtain ⟨hm1, hm2⟩ := hgm
          generalize m.2 = mk at *
          go_wp2_with fail
          go_loopg [12, 13] 3 (fun g cv iv wr => ∃ t : Nat, t ≤ 3 ∧ g = 3 - t ∧ iv = .int .i64 t ∧ wr.ownsRow w7.heap.size 3 1 cv (bt mk t).length ((bt mk t).map fun x : Nat => Value.int .i64 (x : Int)) ∧ Kp (fun _ => True) w7 wr)
          case atStart => exact ⟨0, Nat.zero_le _, rfl, rfl, by rw [bt_0]; exact World.ownsRow_nil _ _ _ _, Kp.refl _ _⟩
          case round =>
            obtain ⟨t, ht, rfl, rfl, hown, hkt⟩ := hrel
            have HO : Hid (wr.ownsRow w7.heap.size 3 1 u12 (bt mk t).length ((bt mk t).map fun x : Nat => Value.int .i64 (x : Int))) := hown
            have HK : Hid (Kp (fun _ => True) w7 wr) := hkt
            clear hown hkt
            have m1 := cell_kp HK.out M1.out trivial
            have hB7l := World.block_lt_of_cell? wr _ m1
            by_cases htl : t < 3
            · have htl' : (t : Int) < 3 := by omega
              go_upto_region 20 with fail
              go_cut [78] (fun v wx => v = .bool (tb mk t) ∧ wx = wr)
              case first =>
                clear HO HK HP3
                have hcm : mk = 0 ∨ mk = 1 ∨ mk = 2 ∨ mk = 3 ∨ mk = 4 ∨ mk = 5 ∨ mk = 6 ∨ mk = 7 := by omega
                have hct : t = 0 ∨ t = 1 ∨ t = 2 := by omega
                rcases hcm with rfl | rfl | rfl | rfl | rfl | rfl | rfl | rfl <;> rcases hct with rfl | rfl | rfl
                all_goals
                  go_wp2_with fail
                  go_meet
                  case rel => exact ⟨rfl, rfl⟩
              case rest =>
                obtain ⟨rfl, hwc⟩ := hcut
                subst wc
                cases htb : tb mk t
                · have HBS : Hid (bt mk (t + 1) = bt mk t) := bt_same hm2 htl htb
                  clear htb
                  go_wp2_with fail
                  go_roundg (3 - (t + 1))
                  case measure => omega
                  case rel => exact ⟨t + 1, htl, rfl, by go_num, by rw [HBS.out]; exact HO.out, HK.out⟩
                · have HTB : Hid (tb mk t = true) := htb
                  have HBL : Hid ((bt mk t).length ≤ 3) := bt_len mk t
                  clear htb
                  go_wp2_with (at_builtin; refine wpList_append_lies _ rfl _ _ 37 rfl w7.heap.size 3 i3 (.int .i64 0) 1 8 Ybad.underlying37 ri rz0 rz1 rz2 rfl (by decide) _ (bt mk t).length ((bt mk t).map fun x : Nat => Value.int .i64 (x : Int)) rfl (HO.out.alloc _) ⟨wr.heap.size, 0, none⟩ 1 1 [.int .i64 (t : Int)] rfl rfl (cells1 _ _ _) (one1 _) (by omega) ?k3 ?k4 ?k5 (wr.heap.size + 1) ?k6 ?_)
                  case k3 => have := HBL.out; unfold maxLen; omega
                  case k4 => have := HBL.out; omega
                  case k5 => have := HK.out.size; simp; omega
                  intro g2 cap2 w8 hown8 hgrow8 hat8 hlt8
                  have HO8 : Hid (w8.ownsRow w7.heap.size 3 1 (.slice (some ⟨g2, 0, none⟩) ((bt mk t).length + 1) cap2) (bt mk (t + 1)).length ((bt mk (t + 1)).map fun x : Nat => Value.int .i64 (x : Int))) := bt_app hm2 htl HTB.out hown8
                  have HK8 : Hid (Kp (fun _ => True) w7 w8) := by
                    have hk8 : Kp (fun z => some z ≠ u12.ownBlock) wr w8 := ((Kp.refl _ _).alloc _).trans (Kp.ofGrown hgrow8)
                    exact ⟨hk8.os.trans HK.out.os, hk8.tape.trans HK.out.tape, hk8.output.trans HK.out.output, Nat.le_trans HK.out.size hk8.size, fun z hz _ => (hk8.block z (Nat.lt_of_lt_of_le hz HK.out.size) (fun e => by have := (own_lt HO.out e.symm).1; omega)).trans (HK.out.block z hz trivial)⟩
                  clear hown8 hgrow8 hat8 hlt8 HBL HTB
                  go_wp2_with fail
                  go_roundg (3 - (t + 1))
                  case measure => omega
                  case rel => exact ⟨t + 1, htl, rfl, by go_num, HO8.out, HK8.out⟩
            · obtain rfl : t = 3 := by omega
              clear htl
              have HP4 : Hid (PS w wr N w.heap.size L (.slice (some ⟨g, 0, none⟩) (3 + j + 1) cap) (D.put (klE (nm m.1)) (.lit (.int .i64 (3 + (j : Int))))) (3 + ms.length) (3 + j + 1) (3 + j + 1) (3 + j) ms) := ps_keep HP3.out HK.out
              have HO3 : Hid (wr.ownsRow w7.heap.size 3 1 u12 (cls ms (3 + j)).length ((cls ms (3 + j)).map fun x : Nat => Value.int .i64 (x : Int))) := by
                rw [Hid, HCL.out, ← bt_3 mk hm2]; exact HO.out
              obtain ⟨la, lc, hu12, hcl⟩ := cls_own HO3.out
              subst hu12
              have HBD : Hid (N < w7.heap.size ∧ w.heap.size < w7.heap.size ∧ L < w7.heap.size ∧ g < w7.heap.size) := ⟨lt_of_row HP3.out.nb, HP3.out.mo.lt, by obtain ⟨lf, l1, _⟩ := HP3.out.lr; exact lt_of_row l1, (own_lt HP3.out.eo rfl).2⟩
              have HP5 : Hid (PS w (wr.setCell ⟨L, 3 + j, none⟩ (.slice la (cls ms (3 + j)).length lc)) N w.heap.size L (.slice (some ⟨g, 0, none⟩) (3 + j + 1) cap) (D.put (klE (nm m.1)) (.lit (.int .i64 (3 + (j : Int))))) (3 + ms.length) (3 + j + 1) (3 + j + 1) (3 + j + 1) ms) := by
                refine ps_lnk HP4.out la lc (fun t ht => ?_)
                obtain ⟨b, e1, e2, e3⟩ := hcl t ht
                have := HBD.out
                exact ⟨b, e1, by omega, by omega, by omega, by simp [Value.ownBlock]; omega, e3⟩
              obtain ⟨c0, c1, c3, f1, hNl⟩ := ps_cells HP4.out
              obtain ⟨⟨lv, cL⟩, fL, hLl⟩ := ps_lcell HP4.out (i := 3 + j) (by omega)
              clear HP4 HP3 HO HO3 HK hcl HBD c0 c1 f1 m1 hB7l
              have hidx : (3 + (j : Int)) < ((3 + ms.length : Nat) : Int) := by omega
              go_wp2_with fail
              go_roundg (ms.length - (j + 1))
              case measure => omega
              case rel => exact ⟨j + 1, _, _, hjl, rfl, by go_num, HP5.out⟩
        · obtain rfl : j = ms.length := by omega
          clear hjl hj
          obtain ⟨ua, ecap, rfl, _⟩ := own_cells HP.out.eo
          go_upto_region 25 with fail
          have HP6 : Hid (PS w (wo.alloc (.cells Ybad.zeroCells92 92)).drew N w.heap.size L (.slice ua (3 + ms.length) ecap) D (3 + ms.length) (3 + ms.length) (3 + ms.length) (3 + ms.length) ms) := ps_keep HP.out ((Kp.refl _ _).alloc _).drew
          have hth : (wo.alloc (.cells Ybad.zeroCells92 92)).drew.there wo.heap.size (1 + c * 23) 23 := there92 _ _ _ (by omega) (heap_alloc_new wo _)
          have HRN : Hid ((wo.alloc (.cells Ybad.zeroCells92 92)).drew.rangeAt N 0 (ncs w.heap.size (.slice ua (3 + ms.length) ecap) (.slice (some ⟨L, 0, none⟩) (3 + ms.length) (3 + ms.length)))) := fun j v hv => by rw [cell_of_row _ N (0 + j) _ 74 (0, 0) HP6.out.nb]; simpa using hv
          have HNP : Hid (N ≠ wo.heap.size) := by have := lt_of_row HP.out.nb; rw [Hid]; omega
          have HTH : Hid ((wo.alloc (.cells Ybad.zeroCells92 92)).drew.there wo.heap.size (1 + c * 23) 23) := hth
          have HR : Hid (((wo.alloc (.cells Ybad.zeroCells92 92)).drew.setCells wo.heap.size (1 + c * 23) (ncs w.heap.size (.slice ua (3 + ms.length) ecap) (.slice (some ⟨L, 0, none⟩) (3 + ms.length) (3 + ms.length)))).rangeAt wo.heap.size (1 + c * 23) (ncs w.heap.size (.slice ua (3 + ms.length) ecap) (.slice (some ⟨L, 0, none⟩) (3 + ms.length) (3 + ms.length)))) := World.rangeAt_setCells_same _ _ _ _ hth
          have HKF : Hid (Kp (fun _ => True) wo ((wo.alloc (.cells Ybad.zeroCells92 92)).drew.setCells wo.heap.size (1 + c * 23) (ncs w.heap.size (.slice ua (3 + ms.length) ecap) (.slice (some ⟨L, 0, none⟩) (3 + ms.length) (3 + ms.length))))) := Kp.setCells _ _ ((Kp.refl _ _).alloc _).drew (.inr (Nat.le_refl _))
          clear hth HP6
          have HCS : Hid (∀ v ∈ ncs w.heap.size (.slice ua (3 + ms.length) ecap) (.slice (some ⟨L, 0, none⟩) (3 + ms.length) (3 + ms.length)), v.oneCell' = true) := ncs_one _ _ _ _ _ _ _
          have HSZ : Hid ((Ybad.prog.info? 74).map (·.size) = some (ncs w.heap.size (.slice ua (3 + ms.length) ecap) (.slice (some ⟨L, 0, none⟩) (3 + ms.length) (3 + ms.length))).length) := size74
          have HLN : Hid ((ncs w.heap.size (.slice ua (3 + ms.length) ecap) (.slice (some ⟨L, 0, none⟩) (3 + ms.length) (3 + ms.length))).length = 23) := rfl
          have HPE : Hid (∀ wf, Kp (fun _ => True) wo wf → ∀ P, wf.rangeAt P (1 + c * 23) (ncs w.heap.size (.slice ua (3 + ms.length) ecap) (.slice (some ⟨L, 0, none⟩) (3 + ms.length) (3 + ms.length))) → ∃ E, PQ wf P (1 + c * 23) E ecap L w.heap.size D ms) := fun wf h1 P h2 => ps_end hn HP.out h1 P h2
          have HKW : Hid (Kp (fun _ => True) w wo) := HP.out.kp
          clear HP
          generalize ncs w.heap.size (.slice ua (3 + ms.length) ecap) (.slice (some ⟨L, 0, none⟩) (3 + ms.length) (3 + ms.length)) = cs at *
          have hc' : (c : Int) < 3 := by omega
          generalize (wo.alloc (.cells Ybad.zeroCells92 92)) = wz at *
          generalize wo.heap.size = P at *
          refine wp_region_held_drew (S := fun w' => w'.rangeAt N 0 cs) (by kernel_rfl) HRN.out (fun hHeld => ?_)
          refine wpAnyH_take (i := 0) (v := ?_) rfl (by kernel_rfl) (by kernel_rfl) (by kernel_rfl) (fun _ _ _ h => h) (Or.inl ⟨by rfl, ?_⟩) (by assumption) ?_
          rotate_left
          · intro wq hwq
            go_simp
            first | done | with_reducible rfl
          simp only [Act.put, List.setIfInBounds_toArray, List.set_cons_zero, List.set_cons_succ, List.getElem_toArray, List.getElem_cons_zero]
          refine wpAnyH_take (i := 1) (v := ?_) rfl (by kernel_rfl) (by kernel_rfl) (by kernel_rfl) (fun _ _ _ h => h) (Or.inl ⟨by rfl, ?_⟩) (by assumption) ?_
          rotate_left
          · intro wq hwq
            go_simp
            first | done | with_reducible rfl
          simp only [Act.put, List.setIfInBounds_toArray, List.set_cons_zero, List.set_cons_succ, List.getElem_toArray, List.getElem_cons_zero, List.getElem_cons_succ]
          refine wpAnyH_take (i := 2) (v := .agg cs.toArray) rfl (by kernel_rfl) (by kernel_rfl) (by kernel_rfl) (fun _ _ _ h => h) (yieldsIf_load_mid (by rfl) 74 (.tmp 6) rfl N 0 rfl cs _ (fun w h => h) Ybad.underlying74 rfl HSZ.out) (by assumption) ?_
          simp only [Act.put, List.setIfInBounds_toArray, List.set_cons_zero, List.set_cons_succ, List.getElem_toArray, List.getElem_cons_zero, List.getElem_cons_succ]
          refine wpAnyH_take (i := 3) (v := ?_) rfl (by kernel_rfl) (by kernel_rfl) (by kernel_rfl) (fun _ _ _ h => h) (Or.inl ⟨by rfl, ?_⟩) (by assumption) ?_
          rotate_left
          · intro wq hwq
            go_simp
            first | done | with_reducible rfl
          simp only [Act.put, List.setIfInBounds_toArray, List.set_cons_zero, List.set_cons_succ, List.getElem_toArray, List.getElem_cons_zero, List.getElem_cons_succ]
          refine wpAnyH_take (i := 4) (v := ?_) rfl (by kernel_rfl) (by kernel_rfl) (by kernel_rfl) (fun _ _ _ h => h) (Or.inl ⟨by rfl, ?_⟩) (by assumption) ?_
          rotate_left
          · intro wq hwq
            go_simp
            first | done | with_reducible rfl
          simp only [Act.put, List.setIfInBounds_toArray, List.set_cons_zero, List.set_cons_succ, List.getElem_toArray, List.getElem_cons_zero, List.getElem_cons_succ]
          refine wpAnyH_take (i := 5) (v := ?_) rfl (by kernel_rfl) (by kernel_rfl) (by kernel_rfl) (fun _ _ _ h => h) (Or.inl ⟨by rfl, ?_⟩) (by assumption) ?_
          rotate_left
          · intro wq hwq
            go_simp
            first | done | with_reducible rfl
          simp only [Act.put, List.setIfInBounds_toArray, List.set_cons_zero, List.set_cons_succ, List.getElem_toArray, List.getElem_cons_zero, List.getElem_cons_succ]
          refine wpAnyH_ready (rs := [6]) (by kernel_rfl) (by simp) (AllReadyH.cons rfl (fun K hK => ?_) AllReadyH.nil)
          rw [if_pos (by rfl)]
          refine wp_store_mid 74 (.tmp 97) (.tmp 94) rfl P (1 + c * 23) cs.toArray rfl rfl (by rw [List.size_toArray, HLN.out]; exact HTH.out) (by rw [List.size_toArray]; exact HSZ.out) (all_oneCell_toArray HCS.out) ?_
          refine hK.out _ _ (World.rangeAt_setCells_apart hHeld _ _ _ (.inl HNP.out)) (fun hHeld2 => ?_)
          refine wpAnyH_done (by kernel_rfl) ?_ _
          simp only [Act.put, List.getElem_toArray, List.getElem_cons_zero, List.getElem_cons_succ]
          clear hK K hHeld hHeld2
          have HR2 : Hid ((wz.drew.setCells P (1 + c * 23) cs).rangeAt P (1 + c * 23) cs) := HR.out
          have HKF2 : Hid (Kp (fun _ => True) wo (wz.drew.setCells P (1 + c * 23) cs)) := HKF.out
          generalize wz.drew.setCells P (1 + c * 23) cs = wf at *
          go_wp2_with fail
          go_ret
          obtain ⟨E, hpq⟩ := HPE.out _ HKF2.out P HR2.out
          exact ⟨P, E, ecap, L, _, _, rfl, hpq, HKW.out.trans HKF2.out⟩
end Go.Proofs.YbulkawhcDoor.Po
