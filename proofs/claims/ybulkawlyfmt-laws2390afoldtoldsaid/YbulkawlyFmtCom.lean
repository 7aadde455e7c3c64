import Derived.Test.YbulkawlyFmtLev
import Derived.Test.YbulkawlyFmtCmp2
import Derived.Deep.LoopGhost
namespace Go.Proofs.YbulkawlyFmt.Ac
open Go.ChangeShapes Go.WideShapes Go.ChangeAt Go.RowKit Go.Proofs.YbulkawlyFmt.Lw Go.Proofs.YbulkawlyFmt Go.Proofs.YbulkawlyFmt.Pl
open Go.Stop (Interp)

/-- What the comparisons come to behind the first j + 1 values. -/
def cur (a : Nat → Nat) (q : Nat → Bool) (o : Nat → Nat) : Nat → Nat × Bool
  | 0 => (a 0, q 0)
  | j + 1 => (if ans (o j) (way (cur a q o j).1 (a (j + 1)) (cur a q o j).2 (q (j + 1))) = true then 1 else 0, false)
theorem cur_lt (a : Nat → Nat) (q : Nat → Bool) (o : Nat → Nat) (h : ∀ i, a i < 12) : ∀ j, (cur a q o j).1 < 12
  | 0 => h 0
  | j + 1 => by simp only [cur]; split <;> omega

def six : List ByteArray := [⟨#[61]⟩, ⟨#[33, 61]⟩, ⟨#[60]⟩, ⟨#[62]⟩, ⟨#[60, 61]⟩, ⟨#[62, 61]⟩]
theorem six_get (o : Nat) (ho : o < 6) : six.getD o ⟨#[]⟩ = oxt o := by
  rcases Cm.six ho with rfl | rfl | rfl | rfl | rfl | rfl <;> rfl
theorem six_ne (o : Nat) (ho : o < 6) : ∀ i, i < o → ((oxt o).toList == (six.getD i ⟨#[]⟩).toList) = false := by
  have h : ∀ a b : Fin 6, b < a → ((oxt a).toList == (six.getD b ⟨#[]⟩).toList) = false := by decide +kernel
  intro i hi
  exact h ⟨o, ho⟩ ⟨i, by omega⟩ hi
theorem oxt_ne (o : Nat) (ho : o < 6) : (oxt o).toList.isEmpty = false := by
  have h : ∀ a : Fin 6, (oxt a).toList.isEmpty = false := by decide +kernel
  exact h ⟨o, ho⟩

/-- No comparison goes on here. -/
def NoC (ts : List Tok) (pos : Nat) : Prop := pos = ts.length ∨ (pos < ts.length ∧ ∀ i, i < 6 → ((ts.getD pos noTok).text.toList == (six.getD i ⟨#[]⟩).toList) = false)

theorem accept_noC (P T : Nat) (ta : Option Addr) (cap : Nat) (ts : List Tok) (pos : Nat) (ob ocap : Nat) (w : World) (h : Ps w P T ta cap ts pos) (hs : NoC ts pos) (ho : Ops w ob six) :
    Calls Ybaf.prog 9 #[.pointer (some ⟨P, 0, none⟩), .slice (some ⟨ob, 0, none⟩) six.length ocap] w fun e w' => e = .returned (.string ⟨#[]⟩) ∧ Ps w' P T ta cap ts pos ∧ Kp (fun k => k ≠ P) w w' := by
  rcases hs with he | ⟨hp, hx⟩
  · exact accept_end P T ta cap ts pos _ _ _ w h he
  · have e := h.tk (by omega)
    subst e
    exact accept_no P T cap ts pos ob ocap six w h hp (by decide) (fun _ i hi => hx i hi) ho

/-- WHAT HOLDS AT THE HEAD OF comparison's LOOP: j + 1 values have been read. R: the result's block, V: the value's. -/
structure Hd (w wr : World) (P T : Nat) (cap : Nat) (ts : List Tok) (R V : Nat) (c : Nat × Bool) (pos : Nat) : Prop where
  ps : Ps wr P T (some ⟨T, 0, none⟩) cap ts pos
  kp : Kp (fun k => k ≠ P) w wr
  rs : wr.heap[R]? = some (.cells #[.string ⟨#[]⟩, .bool false] 28 (0, 0))
  vl : wr.heap[V]? = some (.cells #[.string (txt c.1), .bool c.2] 28 (0, 0))

set_option maxRecDepth 100000 in
set_option maxHeartbeats 4000000 in
theorem comparison_ok (P T : Nat) (cap : Nat) (ts : List Tok) (w : World) (h : Ps w P T (some ⟨T, 0, none⟩) cap ts 0) (m : Nat) (hm : 0 < m) (hm2 : m ≤ 2000) (a : Nat → Nat) (q : Nat → Bool) (o : Nat → Nat)
    (ha : ∀ i, a i < 12) (hoo : ∀ i, o i < 6) (hv : ∀ i, i < m → Val ts (2 * i) (txt (a i)) (q i)) (ho : ∀ i, i + 1 < m → 2 * i + 1 < ts.length ∧ ts.getD (2 * i + 1) noTok = ⟨true, oxt (o i), false⟩)
    (hs : ∀ i, i < m → Stp ts (2 * i + 1)) (he : NoC ts (2 * m - 1)) (ev : Value) (hev : w.cell? ⟨1, 0, none⟩ = some ev) (hev2 : ev = .nilIface ∨ ∃ te pe, ev = .iface te pe) (hP1 : P ≠ 1) :
    Calls Ybaf.prog 6 #[.pointer (some ⟨P, 0, none⟩)] w fun e w' => e = .returned (.tuple #[.agg #[.string (txt (cur a q o (m - 1)).1), .bool (cur a q o (m - 1)).2], .nilIface]) ∧ Ps w' P T (some ⟨T, 0, none⟩) cap ts (2 * m - 1) ∧ Kp (fun k => k ≠ P) w w' := by
  have H : Hid (Ps w P T (some ⟨T, 0, none⟩) cap ts 0) := h
  have HA : Hid (∀ i, a i < 12) := ha
  have HOO : Hid (∀ i, o i < 6) := hoo
  have HV : Hid (∀ i, i < m → Val ts (2 * i) (txt (a i)) (q i)) := hv
  have HO : Hid (∀ i, i + 1 < m → 2 * i + 1 < ts.length ∧ ts.getD (2 * i + 1) noTok = ⟨true, oxt (o i), false⟩) := ho
  have HS : Hid (∀ i, i < m → Stp ts (2 * i + 1)) := hs
  have HE : Hid (NoC ts (2 * m - 1)) := he
  have HEV : Hid (w.cell? ⟨1, 0, none⟩ = some ev) := hev
  have HEV2 : Hid (ev = .nilIface ∨ ∃ te pe, ev = .iface te pe) := hev2
  have hPl := lt_of_row h.st
  have hTl : T < w.heap.size := World.block_lt_of_cell? w _ (h.cl 0 (hv 0 hm).1).1
  clear h ha hoo hv ho hs he hev hev2
  go_enter Ybaf.func6, Ybaf.ntmps6
  go_wp2_with fail
  have k0 : Kp (fun _ => True) w (w.alloc (.cells #[.string ⟨#[]⟩, .bool false] 28)) := (Kp.refl _ _).alloc _
  refine (sum_val P T cap ts 0 _ (ps_kp H.out k0) (txt (a 0)) (q 0) (HV.out 0 hm) (HS.out 0 hm)).mono ?_
  rintro e w1 ⟨rfl, hps, hk⟩
  have hR1 := hk.row (heap_alloc_new w _) (show w.heap.size ≠ P by omega)
  have hRl1 : w.heap.size < w1.heap.size := lt_of_row hR1
  have k1 : Kp (fun _ => True) w1 (w1.alloc (.cells #[.string (txt (a 0)), .bool (q 0)] 28)) := (Kp.refl _ _).alloc _
  have h0 : Hid (Hd w (w1.alloc (.cells #[.string (txt (a 0)), .bool (q 0)] 28)) P T cap ts w.heap.size w1.heap.size (cur a q o 0) 1) :=
    ⟨ps_kp hps k1, ((k0.mono (fun _ _ _ => trivial)).trans hk).trans (k1.mono (fun _ _ _ => trivial)), k1.row hR1 trivial, heap_alloc_new w1 _⟩
  have hP1l : P < w1.heap.size := lt_of_row hps.st
  have hT1l : T < w1.heap.size := by have := hk.size; have := k0.size; omega
  clear k0 hps hk hR1 k1
  go_wp2
  generalize w1.alloc (.cells #[.string (txt (a 0)), .bool (q 0)] 28) = w2 at *
  generalize w1.heap.size = V at *
  go_loopg [5] m (fun g er wr => er = .nilIface ∧ ∃ j : Nat, j < m ∧ g = m - j ∧ Hd w wr P T cap ts w.heap.size V (cur a q o j) (2 * j + 1))
  case atStart => exact ⟨rfl, 0, hm, rfl, h0.out⟩
  case round =>
    clear h0
    obtain ⟨rfl, j, hj, rfl, hd⟩ := hrel
    obtain ⟨wo, rfl⟩ : ∃ wo, wo = wr := ⟨wr, rfl⟩
    have HD : Hid (Hd w wo P T cap ts w.heap.size V (cur a q o j) (2 * j + 1)) := hd
    have hVl : V < wo.heap.size := lt_of_row hd.vl
    have hwo := hd.kp.size
    clear hd
    go_wp2_with fail
    have hops := ops_row wo six 9
    have kk : Kp (fun _ => True) wo (wo.alloc (.cells (six.map Value.string).toArray 9)) := (Kp.refl _ _).alloc _
    by_cases hlast : j + 1 < m
    · obtain ⟨hl1, ht1⟩ := HO.out j hlast
      refine (accept_yes P T cap ts (2 * j + 1) wo.heap.size 6 six _ (ps_kp HD.out.ps kk) hl1 (by decide) (by rw [ht1]) (o j) (HOO.out j) (by rw [ht1]; exact six_get _ (HOO.out j)) (by rw [ht1]; exact six_ne _ (HOO.out j)) hops).mono ?_
      rintro e w3 ⟨rfl, hps, hk⟩
      rw [ht1]
      have kk3 : Kp (fun k => k ≠ P) wo w3 := (kk.mono (fun _ _ _ => trivial)).trans hk
      have H3 : Hid (Ps w3 P T (some ⟨T, 0, none⟩) cap ts (2 * j + 1 + 1)) := hps
      have HK3 : Hid (Kp (fun k => k ≠ P) w w3) := HD.out.kp.trans kk3
      have HR3 : Hid (w3.heap[w.heap.size]? = some (.cells #[.string ⟨#[]⟩, .bool false] 28 (0, 0))) := kk3.row HD.out.rs (by omega)
      have HV3 : Hid (w3.heap[V]? = some (.cells #[.string (txt (cur a q o j).1), .bool (cur a q o j).2] 28 (0, 0))) := kk3.row HD.out.vl (by omega)
      have hne := oxt_ne (o j) (HOO.out j)
      have hsz3 := kk3.size
      clear hops kk hps hk kk3 ht1 hl1
      go_wp2_with fail
      have k4 : Kp (fun _ => True) w3 (w3.alloc (.cells #[.string ⟨#[]⟩, .bool false] 28)) := (Kp.refl _ _).alloc _
      refine (sum_val P T cap ts (2 * (j + 1)) _ (ps_kp (show Ps w3 P T (some ⟨T, 0, none⟩) cap ts (2 * (j + 1)) from H3.out) k4) (txt (a (j + 1))) (q (j + 1)) (HV.out (j + 1) hlast) (HS.out (j + 1) hlast)).mono ?_
      rintro e w5 ⟨rfl, hps, hk⟩
      have kk5 : Kp (fun k => k ≠ P) w3 w5 := (k4.mono (fun _ _ _ => trivial)).trans hk
      have hU5 := hk.row (heap_alloc_new w3 _) (show w3.heap.size ≠ P by omega)
      have H5 : Hid (Ps w5 P T (some ⟨T, 0, none⟩) cap ts (2 * (j + 1) + 1)) := hps
      have HK5 : Hid (Kp (fun k => k ≠ P) w w5) := HK3.out.trans kk5
      have hR5 := kk5.row HR3.out (show w.heap.size ≠ P by omega)
      have hV5 := kk5.row HV3.out (show V ≠ P by omega)
      have hsz5 := kk5.size
      have hUl : w3.heap.size < w5.heap.size := lt_of_row hU5
      obtain ⟨u0, u1, x0, x1⟩ := two_cells hU5
      obtain ⟨v0, v1, y0, y1⟩ := two_cells hV5
      have HR5 : Hid (w5.heap[w.heap.size]? = some (.cells #[.string ⟨#[]⟩, .bool false] 28 (0, 0))) := hR5
      have HV5 : Hid (w5.heap[V]? = some (.cells #[.string (txt (cur a q o j).1), .bool (cur a q o j).2] 28 (0, 0))) := hV5
      clear k4 hps hk kk5 hU5 hR5 hV5
      have hUV : V ≠ w3.heap.size := by omega
      go_wp2_with fail
      have k6 : Kp (fun k => k ≠ w3.heap.size) w5 ((w5.setCell ⟨w3.heap.size, 0, none⟩ (.string (txt (a (j + 1))))).setCell ⟨w3.heap.size, 1, none⟩ (.bool (q (j + 1)))) := ((Kp.refl _ _).setCell (by simp) _).setCell (by simp) _
      have h1l : 1 < w.heap.size := World.block_lt_of_cell? w _ HEV.out
      have hev6 := cell_kp k6 (cell_kp HK5.out HEV.out (show 1 ≠ P from Ne.symm hP1)) (show 1 ≠ w3.heap.size by omega)
      refine (Cm.compare (o j) (HOO.out j) (cur a q o j).1 (a (j + 1)) (cur_lt a q o HA.out j) (HA.out (j + 1)) (cur a q o j).2 (q (j + 1)) ev _ hev6 HEV2.out).mono ?_
      rintro e w7 ⟨rfl, hk7⟩
      have k7 : Kp (fun k => k ≠ w3.heap.size) w5 w7 := k6.trans (hk7.mono (fun _ _ _ => trivial))
      have H7 : Hid (Ps w7 P T (some ⟨T, 0, none⟩) cap ts (2 * (j + 1) + 1)) := ps_kpp H5.out k7 (by omega) (by omega)
      have HK7 : Hid (Kp (fun k => k ≠ P) w w7) := ⟨k7.os.trans HK5.out.os, k7.tape.trans HK5.out.tape, k7.output.trans HK5.out.output, Nat.le_trans HK5.out.size k7.size, fun k hk hp => (k7.block k (by omega) (by omega)).trans (HK5.out.block k hk hp)⟩
      have HR7 : Hid (w7.heap[w.heap.size]? = some (.cells #[.string ⟨#[]⟩, .bool false] 28 (0, 0))) := k7.row HR5.out (by omega)
      have HV7 : Hid (w7.heap[V]? = some (.cells #[.string (txt (cur a q o j).1), .bool (cur a q o j).2] 28 (0, 0))) := k7.row HV5.out hUV
      clear k6 hev6 hk7 k7 u0 u1 x0 x1 v0 v1 y0 y1
      go_wp2_with fail
      refine (Cm.boolean _ _).mono ?_
      rintro e w8 ⟨rfl, hk8⟩
      have H8 : Hid (Ps w8 P T (some ⟨T, 0, none⟩) cap ts (2 * (j + 1) + 1)) := ps_kp H7.out hk8
      have HK8 : Hid (Kp (fun k => k ≠ P) w w8) := HK7.out.trans (hk8.mono (fun _ _ _ => trivial))
      have HR8 : Hid (w8.heap[w.heap.size]? = some (.cells #[.string ⟨#[]⟩, .bool false] 28 (0, 0))) := hk8.row HR7.out trivial
      have hV8 := hk8.row HV7.out trivial
      obtain ⟨v0, v1, y0, y1⟩ := two_cells hV8
      have HV8 : Hid (w8.heap[V]? = some (.cells #[.string (txt (cur a q o j).1), .bool (cur a q o j).2] 28 (0, 0))) := hV8
      have HC : Hid (cur a q o (j + 1) = (if ans (o j) (way (cur a q o j).1 (a (j + 1)) (cur a q o j).2 (q (j + 1))) = true then 1 else 0, false)) := rfl
      clear hk8 hV8
      generalize (if ans (o j) (way (cur a q o j).1 (a (j + 1)) (cur a q o j).2 (q (j + 1))) = true then 1 else 0 : Nat) = nn at HC ⊢
      go_wp2
      go_roundg (m - (j + 1))
      case measure => omega
      case rel =>
        refine ⟨rfl, j + 1, hlast, rfl, ?_⟩
        rw [HC.out]
        have k9 : Kp (fun k => k ≠ V) w8 ((w8.setCell ⟨V, 0, none⟩ (.string (txt nn))).setCell ⟨V, 1, none⟩ (.bool false)) := ((Kp.refl _ _).setCell (by simp) _).setCell (by simp) _
        refine ⟨ps_kpp H8.out k9 (by omega) (by omega), ((HK8.out.setCell (.inr (by simp; omega)) _).setCell (.inr (by simp; omega)) _), k9.row HR8.out (by omega), ?_⟩
        have e1 := set_row (cs := [.string (txt (cur a q o j).1), .bool (cur a q o j).2]) HV8.out 0 (.string (txt nn))
        have e2 := set_row e1 1 (.bool false)
        exact e2
    · have hje : j = m - 1 := by omega
      refine (accept_noC P T (some ⟨T, 0, none⟩) cap ts (2 * j + 1) wo.heap.size 6 _ (ps_kp HD.out.ps kk) (by have := HE.out; rwa [show 2 * m - 1 = 2 * j + 1 by omega] at this) hops).mono ?_
      rintro e w3 ⟨rfl, hps, hk⟩
      have kk3 : Kp (fun k => k ≠ P) wo w3 := (kk.mono (fun _ _ _ => trivial)).trans hk
      have H3 : Hid (Ps w3 P T (some ⟨T, 0, none⟩) cap ts (2 * j + 1)) := hps
      have HK3 : Hid (Kp (fun k => k ≠ P) w w3) := HD.out.kp.trans kk3
      have hR3 := kk3.row HD.out.rs (show w.heap.size ≠ P by omega)
      have hV3 := kk3.row HD.out.vl (show V ≠ P by omega)
      obtain ⟨r0, r1, g0, g1⟩ := two_cells hR3
      obtain ⟨v0, v1, _, _⟩ := two_cells hV3
      have HJ : Hid (j = m - 1) := hje
      clear hops kk hps hk kk3 hR3 hV3 hje
      go_wp2
      refine bodyPost_ret (v := .tuple #[.agg #[.string (txt (cur a q o j).1), .bool (cur a q o j).2], .nilIface]) (by simp [results, Ybaf.results6, go_sem, r0, r1]) rfl ⟨by rw [← HJ.out], ?_, ?_⟩
      · rw [show 2 * m - 1 = 2 * j + 1 by have := HJ.out; omega]
        exact ps_kpp (p := fun k => k ≠ w.heap.size) H3.out ((((Kp.refl _ _).setCell (by simp) _).setCell (by simp) _)) (by omega) (by omega)
      · exact ((HK3.out.setCell (by simp) _).setCell (by simp) _)
end Go.Proofs.YbulkawlyFmt.Ac
