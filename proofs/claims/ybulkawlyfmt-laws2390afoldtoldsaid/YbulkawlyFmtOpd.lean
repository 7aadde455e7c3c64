import Derived.Test.YbulkawlyFmtAcc
import Derived.Test.YbulkawlyFmtStop
namespace Go.Proofs.YbulkawlyFmt.Ac
open Go.ChangeShapes Go.WideShapes Go.ChangeAt Go.RowKit Go.Proofs.YbulkawlyFmt.Lw Go.Proofs.YbulkawlyFmt
open Go.Stop (Interp)

/-- The cells of a block that is known whole, two of them. -/
theorem two_cells {w : World} {g : Nat} {x y : Value} {t : TypeId} (h : w.heap[g]? = some (.cells #[x, y] t (0, 0))) : w.cell? ⟨g, 0, none⟩ = some x ∧ w.cell? ⟨g, 1, none⟩ = some y ∧ w.frozen? ⟨g, 0, none⟩ = false ∧ w.frozen? ⟨g, 1, none⟩ = false :=
  ⟨by rw [cell_of_row w g 0 _ t (0, 0) h]; rfl, by rw [cell_of_row w g 1 _ t (0, 0) h]; rfl, frozen_of_row w g 0 _ t h, frozen_of_row w g 1 _ t h⟩

theorem ops_one (w : World) (x : ByteArray) (t : TypeId) : Ops (w.alloc (.cells #[.string x] t)) w.heap.size [x] := fun i hi => by
  match i, hi with
  | 0, _ => rw [cell_of_row _ _ 0 _ t (0, 0) (heap_alloc_new w _)]; rfl

set_option maxRecDepth 100000 in
set_option maxHeartbeats 1000000 in
/-- operand at a value. -/
theorem operand_val (P T : Nat) (cap : Nat) (ts : List Tok) (pos : Nat) (w : World) (h : Ps w P T (some ⟨T, 0, none⟩) cap ts pos) (hp : pos < ts.length) (tx : ByteArray) (tq : Bool) (ht : ts.getD pos noTok = ⟨false, tx, tq⟩) :
    Calls Ybaf.prog 23 #[.pointer (some ⟨P, 0, none⟩)] w fun e w' => e = .returned (.tuple #[.agg #[.string tx, .bool tq], .nilIface]) ∧ Ps w' P T (some ⟨T, 0, none⟩) cap ts (pos + 1) ∧ Kp (fun k => k ≠ P) w w' := by
  have H : Hid (Ps w P T (some ⟨T, 0, none⟩) cap ts pos) := h
  have HP : Hid (pos < ts.length) := hp
  have HT : Hid (ts.getD pos noTok = ⟨false, tx, tq⟩) := ht
  have hPl := lt_of_row h.st
  have hTl : T < w.heap.size := World.block_lt_of_cell? w _ (h.cl pos hp).1
  clear h hp ht
  go_enter Ybaf.func23, Ybaf.ntmps23
  go_wp2_with fail
  have hops : Ops ((w.alloc (.cells #[.string ⟨#[]⟩, .bool false] 28)).alloc (.cells #[.string ⟨#[40]⟩] 9)) (w.heap.size + 1) [⟨#[40]⟩] := by
    have := ops_one (w.alloc (.cells #[.string ⟨#[]⟩, .bool false] 28)) ⟨#[40]⟩ 9
    rwa [show (w.alloc (.cells #[.string ⟨#[]⟩, .bool false] 28)).heap.size = w.heap.size + 1 by simp] at this
  have k0 : Kp (fun _ => True) w ((w.alloc (.cells #[.string ⟨#[]⟩, .bool false] 28)).alloc (.cells #[.string ⟨#[40]⟩] 9)) := ((Kp.refl _ _).alloc _).alloc _
  have hR0 : ((w.alloc (.cells #[.string ⟨#[]⟩, .bool false] 28)).alloc (.cells #[.string ⟨#[40]⟩] 9)).heap[w.heap.size]? = some (.cells #[.string ⟨#[]⟩, .bool false] 28 (0, 0)) := ((Kp.refl (fun _ => True) _).alloc _).row (heap_alloc_new w _) trivial
  refine (accept_no P T cap ts pos (w.heap.size + 1) 1 [⟨#[40]⟩] _ (ps_kp H.out k0) HP.out (by simp) (fun ht => by rw [HT.out] at ht; cases ht) hops).mono ?_
  rintro e w1 ⟨rfl, hps, hk⟩
  have hR1 := hk.row hR0 (show w.heap.size ≠ P by omega)
  have HK : Hid (Kp (fun k => k ≠ P) w w1) := (k0.mono (fun _ _ _ => trivial)).trans hk
  obtain ⟨r0, r1, g0, g1⟩ := two_cells hR1
  have s0 : w1.cell? ⟨P, 0, none⟩ = some (.slice (some ⟨T, 0, none⟩) ts.length cap) := by rw [cell_of_row w1 P 0 _ 36 (0, 0) hps.st]; rfl
  have s1 : w1.cell? ⟨P, 1, none⟩ = some (.int .i64 (pos : Int)) := by rw [cell_of_row w1 P 1 _ 36 (0, 0) hps.st]; rfl
  have hnl : (pos : Int) < (ts.length : Int) := by have := HP.out; omega
  obtain ⟨c0, c1, c2⟩ := hps.cl pos HP.out
  rw [HT.out] at c0 c1 c2
  have hPl1 := lt_of_row hps.st
  have hTl1 : T < w1.heap.size := World.block_lt_of_cell? w1 _ c0
  have hRl1 : w.heap.size < w1.heap.size := lt_of_row hR1
  have fP := frozen_of_row w1 P 1 _ 36 hps.st
  have hne := hps.ne
  have hneq : ((pos : Int) == (ts.length : Int)) = false := beq_eq_false_iff_ne.2 (by omega)
  have hpl : (pos : Int) ≤ 100000 := by have := hps.ln; omega
  have H1 : Hid (Ps w1 P T (some ⟨T, 0, none⟩) cap ts pos) := hps
  have HR1 : Hid (w1.heap[w.heap.size]? = some (.cells #[.string ⟨#[]⟩, .bool false] 28 (0, 0))) := hR1
  clear hops k0 hR0 hps hk hR1
  go_wp2
  go_quiet (fail)
  have H2 : Hid (Ps (w1.drewN nq) P T (some ⟨T, 0, none⟩) cap ts pos ∧ Kp (fun k => k ≠ P) w (w1.drewN nq)) := ⟨ps_drewN H1.out nq, HK.out.drewN nq⟩
  have HR2 : Hid ((w1.drewN nq).heap[w.heap.size]? = some (.cells #[.string ⟨#[]⟩, .bool false] 28 (0, 0))) := HR1.out
  have s0' : (w1.drewN nq).cell? ⟨P, 0, none⟩ = some (.slice (some ⟨T, 0, none⟩) ts.length cap) := s0
  have s1' : (w1.drewN nq).cell? ⟨P, 1, none⟩ = some (.int .i64 (pos : Int)) := s1
  have c0' : (w1.drewN nq).cell? ⟨T, pos * 3, none⟩ = some (.bool false) := c0
  have c1' : (w1.drewN nq).cell? ⟨T, pos * 3 + 1, none⟩ = some (.string tx) := c1
  have c2' : (w1.drewN nq).cell? ⟨T, pos * 3 + 2, none⟩ = some (.bool tq) := c2
  have r0' : (w1.drewN nq).cell? ⟨w.heap.size, 0, none⟩ = some (.string ⟨#[]⟩) := r0
  have r1' : (w1.drewN nq).cell? ⟨w.heap.size, 1, none⟩ = some (.bool false) := r1
  have g0' : (w1.drewN nq).frozen? ⟨w.heap.size, 0, none⟩ = false := g0
  have g1' : (w1.drewN nq).frozen? ⟨w.heap.size, 1, none⟩ = false := g1
  have fP' : (w1.drewN nq).frozen? ⟨P, 1, none⟩ = false := fP
  have hPl' : P < (w1.drewN nq).heap.size := hPl1
  have hTl' : T < (w1.drewN nq).heap.size := hTl1
  have hRl' : w.heap.size < (w1.drewN nq).heap.size := hRl1
  generalize w1.drewN nq = w2 at *
  clear s0 s1 c0 c1 c2 r0 r1 g0 g1 fP hPl1 hTl1 hRl1 H1 HK HR1
  have hPR : P ≠ w.heap.size := by omega
  go_wp2
  go_region
  go_wp2
  refine bodyPost_ret (v := .tuple #[.agg #[.string tx, .bool tq], .nilIface]) (by simp [results, Ybaf.results23, go_sem, r0', r1', hRl']) rfl ⟨rfl, ?_, ?_⟩
  · have k2 := ps_pos H2.out.1 (pos + 1) HP.out
    have ee : ((pos + 1 : Nat) : Int) = (pos : Int) + 1 := by omega
    rw [ee] at k2
    exact ps_kpp (p := fun k => k ≠ w.heap.size) k2 (((((Kp.refl _ _).setCell (by simp) _).setCell (by simp) _).alloc _).drew) hPR (by omega)
  · exact ((((H2.out.2.setCell (by simp) _).setCell (by simp) _).setCell (by simp) _).alloc _).drew
set_option maxRecDepth 100000 in
set_option maxHeartbeats 1000000 in
/-- operand at the end: an error. -/
theorem operand_end (P T : Nat) (ta : Option Addr) (cap : Nat) (ts : List Tok) (w : World) (h : Ps w P T ta cap ts ts.length) (hPl : P < w.heap.size) (hTl : T < w.heap.size) :
    Calls Ybaf.prog 23 #[.pointer (some ⟨P, 0, none⟩)] w fun e w' => (∃ t x, e = .returned (.tuple #[.agg #[.string ⟨#[]⟩, .bool false], .iface t x])) ∧ Ps w' P T ta cap ts ts.length ∧ Kp (fun k => k ≠ P) w w' := by
  have H : Hid (Ps w P T ta cap ts ts.length) := h
  clear h
  go_enter Ybaf.func23, Ybaf.ntmps23
  go_wp2_with fail
  have k0 : Kp (fun _ => True) w ((w.alloc (.cells #[.string ⟨#[]⟩, .bool false] 28)).alloc (.cells #[.string ⟨#[40]⟩] 9)) := ((Kp.refl _ _).alloc _).alloc _
  have hR0 : ((w.alloc (.cells #[.string ⟨#[]⟩, .bool false] 28)).alloc (.cells #[.string ⟨#[40]⟩] 9)).heap[w.heap.size]? = some (.cells #[.string ⟨#[]⟩, .bool false] 28 (0, 0)) := ((Kp.refl (fun _ => True) _).alloc _).row (heap_alloc_new w _) trivial
  refine (accept_end P T ta cap ts ts.length (some ⟨w.heap.size + 1, 0, none⟩) 1 1 _ (ps_kp H.out k0) rfl).mono ?_
  rintro e w1 ⟨rfl, hps, hk⟩
  have hR1 := hk.row hR0 (show w.heap.size ≠ P by omega)
  have HK : Hid (Kp (fun k => k ≠ P) w w1) := (k0.mono (fun _ _ _ => trivial)).trans hk
  obtain ⟨r0, r1, g0, g1⟩ := two_cells hR1
  have s0 : w1.cell? ⟨P, 0, none⟩ = some (.slice ta ts.length cap) := by rw [cell_of_row w1 P 0 _ 36 (0, 0) hps.st]; rfl
  have s1 : w1.cell? ⟨P, 1, none⟩ = some (.int .i64 (ts.length : Int)) := by rw [cell_of_row w1 P 1 _ 36 (0, 0) hps.st]; rfl
  have hRl1 : w.heap.size < w1.heap.size := lt_of_row hR1
  have H1 : Hid (Ps w1 P T ta cap ts ts.length) := hps
  have HR1 : Hid (w1.heap[w.heap.size]? = some (.cells #[.string ⟨#[]⟩, .bool false] 28 (0, 0))) := hR1
  clear k0 hR0 hps hk hR1
  go_wp2
  go_quiet (fail)
  go_wp2_with fail
  refine (St.errNew _ _).mono ?_
  rintro e w2 ⟨⟨tt, xx, rfl⟩, hk2⟩
  have k1 : Kp (fun _ => True) w1 (w1.drewN nq) := (Kp.refl _ _).drewN nq
  have H2 : Hid (Ps w2 P T ta cap ts ts.length) := ps_kp H1.out (k1.trans hk2)
  have HK2 : Hid (Kp (fun k => k ≠ P) w w2) := HK.out.trans ((k1.trans hk2).mono (fun _ _ _ => trivial))
  have hR2 := (k1.trans hk2).row HR1.out trivial
  have hRl2 : w.heap.size < w2.heap.size := lt_of_row hR2
  obtain ⟨r0', r1', g0', g1'⟩ := two_cells hR2
  clear hk2 k1 hR2 r0 r1 g0 g1 s0 s1 hRl1 HR1
  have hPR : P ≠ w.heap.size := by omega
  go_wp2
  refine bodyPost_ret (v := .tuple #[.agg #[.string ⟨#[]⟩, .bool false], .iface tt xx]) (by simp [results, Ybaf.results23, go_sem, r0', r1']) rfl ⟨⟨_, _, rfl⟩, ?_, ?_⟩
  · exact ps_kpp (p := fun k => k ≠ w.heap.size) H2.out ((((Kp.refl _ _).setCell (by simp) _).setCell (by simp) _)) hPR (by omega)
  · exact ((HK2.out.setCell (by simp) _).setCell (by simp) _)

set_option maxRecDepth 100000 in
set_option maxHeartbeats 1000000 in
/-- operand at an operator: an error. -/
theorem operand_op (F : Interp) (P T : Nat) (cap : Nat) (ts : List Tok) (pos : Nat) (w : World) (h : Ps w P T (some ⟨T, 0, none⟩) cap ts pos) (hp : pos < ts.length) (tx : ByteArray) (tq : Bool) (ht : ts.getD pos noTok = ⟨true, tx, tq⟩) (hx : (tx.toList == (⟨#[40]⟩ : ByteArray).toList) = false) (hF : F.answers w.tape) :
    Calls Ybaf.prog 23 #[.pointer (some ⟨P, 0, none⟩)] w fun e w' => (∃ t x, e = .returned (.tuple #[.agg #[.string ⟨#[]⟩, .bool false], .iface t x])) ∧ Ps w' P T (some ⟨T, 0, none⟩) cap ts pos ∧ Kp (fun k => k ≠ P) w w' := by
  have H : Hid (Ps w P T (some ⟨T, 0, none⟩) cap ts pos) := h
  have HP : Hid (pos < ts.length) := hp
  have HT : Hid (ts.getD pos noTok = ⟨true, tx, tq⟩) := ht
  have hPl := lt_of_row h.st
  have hTl : T < w.heap.size := World.block_lt_of_cell? w _ (h.cl pos hp).1
  have HF : Hid (F.answers w.tape) := hF
  have HX : Hid ((tx.toList == (⟨#[40]⟩ : ByteArray).toList) = false) := hx
  clear h hp ht hF hx
  go_enter Ybaf.func23, Ybaf.ntmps23
  go_wp2_with fail
  have hops : Ops ((w.alloc (.cells #[.string ⟨#[]⟩, .bool false] 28)).alloc (.cells #[.string ⟨#[40]⟩] 9)) (w.heap.size + 1) [⟨#[40]⟩] := by
    have := ops_one (w.alloc (.cells #[.string ⟨#[]⟩, .bool false] 28)) ⟨#[40]⟩ 9
    rwa [show (w.alloc (.cells #[.string ⟨#[]⟩, .bool false] 28)).heap.size = w.heap.size + 1 by simp] at this
  have k0 : Kp (fun _ => True) w ((w.alloc (.cells #[.string ⟨#[]⟩, .bool false] 28)).alloc (.cells #[.string ⟨#[40]⟩] 9)) := ((Kp.refl _ _).alloc _).alloc _
  have hR0 : ((w.alloc (.cells #[.string ⟨#[]⟩, .bool false] 28)).alloc (.cells #[.string ⟨#[40]⟩] 9)).heap[w.heap.size]? = some (.cells #[.string ⟨#[]⟩, .bool false] 28 (0, 0)) := ((Kp.refl (fun _ => True) _).alloc _).row (heap_alloc_new w _) trivial
  refine (accept_no P T cap ts pos (w.heap.size + 1) 1 [⟨#[40]⟩] _ (ps_kp H.out k0) HP.out (by simp) (fun _ i hi => by
    match i, hi with
    | 0, _ => rw [HT.out]; exact HX.out) hops).mono ?_
  rintro e w1 ⟨rfl, hps, hk⟩
  have hR1 := hk.row hR0 (show w.heap.size ≠ P by omega)
  have HK : Hid (Kp (fun k => k ≠ P) w w1) := (k0.mono (fun _ _ _ => trivial)).trans hk
  obtain ⟨r0, r1, g0, g1⟩ := two_cells hR1
  have s0 : w1.cell? ⟨P, 0, none⟩ = some (.slice (some ⟨T, 0, none⟩) ts.length cap) := by rw [cell_of_row w1 P 0 _ 36 (0, 0) hps.st]; rfl
  have s1 : w1.cell? ⟨P, 1, none⟩ = some (.int .i64 (pos : Int)) := by rw [cell_of_row w1 P 1 _ 36 (0, 0) hps.st]; rfl
  have hnl : (pos : Int) < (ts.length : Int) := by have := HP.out; omega
  obtain ⟨c0, c1, c2⟩ := hps.cl pos HP.out
  rw [HT.out] at c0 c1 c2
  have hPl1 := lt_of_row hps.st
  have hTl1 : T < w1.heap.size := World.block_lt_of_cell? w1 _ c0
  have hRl1 : w.heap.size < w1.heap.size := lt_of_row hR1
  have fP := frozen_of_row w1 P 1 _ 36 hps.st
  have hne := hps.ne
  have hneq : ((pos : Int) == (ts.length : Int)) = false := beq_eq_false_iff_ne.2 (by omega)
  have hpl : (pos : Int) ≤ 100000 := by have := hps.ln; omega
  have H1 : Hid (Ps w1 P T (some ⟨T, 0, none⟩) cap ts pos) := hps
  have HR1 : Hid (w1.heap[w.heap.size]? = some (.cells #[.string ⟨#[]⟩, .bool false] 28 (0, 0))) := hR1
  clear hops k0 hR0 hps hk hR1
  go_wp2
  go_quiet (fail)
  have H2 : Hid (Ps (w1.drewN nq) P T (some ⟨T, 0, none⟩) cap ts pos ∧ Kp (fun k => k ≠ P) w (w1.drewN nq)) := ⟨ps_drewN H1.out nq, HK.out.drewN nq⟩
  have HR2 : Hid ((w1.drewN nq).heap[w.heap.size]? = some (.cells #[.string ⟨#[]⟩, .bool false] 28 (0, 0))) := HR1.out
  have s0' : (w1.drewN nq).cell? ⟨P, 0, none⟩ = some (.slice (some ⟨T, 0, none⟩) ts.length cap) := s0
  have s1' : (w1.drewN nq).cell? ⟨P, 1, none⟩ = some (.int .i64 (pos : Int)) := s1
  have c0' : (w1.drewN nq).cell? ⟨T, pos * 3, none⟩ = some (.bool true) := c0
  have c1' : (w1.drewN nq).cell? ⟨T, pos * 3 + 1, none⟩ = some (.string tx) := c1
  have c2' : (w1.drewN nq).cell? ⟨T, pos * 3 + 2, none⟩ = some (.bool tq) := c2
  have r0' : (w1.drewN nq).cell? ⟨w.heap.size, 0, none⟩ = some (.string ⟨#[]⟩) := r0
  have r1' : (w1.drewN nq).cell? ⟨w.heap.size, 1, none⟩ = some (.bool false) := r1
  have g0' : (w1.drewN nq).frozen? ⟨w.heap.size, 0, none⟩ = false := g0
  have g1' : (w1.drewN nq).frozen? ⟨w.heap.size, 1, none⟩ = false := g1
  have fP' : (w1.drewN nq).frozen? ⟨P, 1, none⟩ = false := fP
  have hPl' : P < (w1.drewN nq).heap.size := hPl1
  have hTl' : T < (w1.drewN nq).heap.size := hTl1
  have hRl' : w.heap.size < (w1.drewN nq).heap.size := hRl1
  generalize w1.drewN nq = w2 at *
  clear s0 s1 c0 c1 c2 r0 r1 g0 g1 fP hPl1 hTl1 hRl1 H1 HK HR1
  have hPR : P ≠ w.heap.size := by omega
  go_wp2
  go_region
  go_wp2_with fail
  have HF2 : F.answers ((w2.alloc (.cells #[.bool true, .string tx, .bool tq] 30)).alloc (.cells #[.iface 9 (.string tx)] 20)).drew.tape := by
    have e : ((w2.alloc (.cells #[.bool true, .string tx, .bool tq] 30)).alloc (.cells #[.iface 9 (.string tx)] 20)).drew.tape = w.tape := H2.out.2.tape
    rw [e]; exact HF.out
  have hcc : ((w2.alloc (.cells #[.bool true, .string tx, .bool tq] 30)).alloc (.cells #[.iface 9 (.string tx)] 20)).drew.cell? ⟨w2.heap.size + 1, 0, none⟩ = some (.iface 9 (.string tx)) := by
    have e := heap_alloc_new (w2.alloc (.cells #[.bool true, .string tx, .bool tq] 30)) (.cells #[.iface 9 (.string tx)] 20)
    rw [show (w2.alloc (.cells #[.bool true, .string tx, .bool tq] 30)).heap.size = w2.heap.size + 1 by simp] at e
    exact cell_of_row _ _ 0 _ 20 (0, 0) e
  refine (St.errorf F tx (w2.heap.size + 1) _ HF2 hcc).mono ?_
  rintro e w3 ⟨⟨tt, xx, rfl⟩, hk3⟩
  have k3 : Kp (fun _ => True) w2 w3 := (((Kp.refl _ _).alloc _).alloc _).drew.trans hk3
  have H3 : Hid (Ps w3 P T (some ⟨T, 0, none⟩) cap ts pos) := ps_kp H2.out.1 k3
  have HK3 : Hid (Kp (fun k => k ≠ P) w w3) := H2.out.2.trans (k3.mono (fun _ _ _ => trivial))
  have hR3 := k3.row HR2.out trivial
  obtain ⟨p0, p1, q0, q1⟩ := two_cells hR3
  have hRl3 : w.heap.size < w3.heap.size := lt_of_row hR3
  clear hk3 k3 hR3 HF2 hcc s0' s1' c0' c1' c2' r0' r1' g0' g1' fP' hPl' hTl' hRl'
  go_wp2
  refine bodyPost_ret (v := .tuple #[.agg #[.string ⟨#[]⟩, .bool false], .iface tt xx]) (by simp [results, Ybaf.results23, go_sem, p0, p1]) rfl ⟨⟨_, _, rfl⟩, ?_, ?_⟩
  · exact ps_kpp (p := fun k => k ≠ w.heap.size) H3.out ((((Kp.refl _ _).setCell (by simp) _).setCell (by simp) _)) hPR (by omega)
  · exact ((HK3.out.setCell (by simp) _).setCell (by simp) _)
end Go.Proofs.YbulkawlyFmt.Ac
