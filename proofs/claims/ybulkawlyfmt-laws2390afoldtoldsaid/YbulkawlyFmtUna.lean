import Derived.Test.YbulkawlyFmtOpd
namespace Go.Proofs.YbulkawlyFmt.Ac
open Go.ChangeShapes Go.WideShapes Go.ChangeAt Go.RowKit Go.Proofs.YbulkawlyFmt.Lw Go.Proofs.YbulkawlyFmt
open Go.Stop (Interp)

/-- The operators below the comparisons, and the bracket. -/
def Arith : List ByteArray := [⟨#[40]⟩, ⟨#[45]⟩, ⟨#[33]⟩, ⟨#[42]⟩, ⟨#[47]⟩, ⟨#[37]⟩, ⟨#[43]⟩]
/-- Here no operand begins and no arithmetic goes on: the end, or an operator of another level. -/
def Stp (ts : List Tok) (pos : Nat) : Prop := pos = ts.length ∨ (pos < ts.length ∧ (ts.getD pos noTok).op = true ∧ ∀ o ∈ Arith, ((ts.getD pos noTok).text.toList == o.toList) = false)
/-- A value stands here. -/
def Val (ts : List Tok) (pos : Nat) (tx : ByteArray) (tq : Bool) : Prop := pos < ts.length ∧ ts.getD pos noTok = ⟨false, tx, tq⟩

theorem ops_row (w : World) (xs : List ByteArray) (t : TypeId) : Ops (w.alloc (.cells (xs.map Value.string).toArray t)) w.heap.size xs := fun i hi => by
  rw [cell_of_row _ _ i _ t (0, 0) (heap_alloc_new w _)]
  simp [List.getD, hi]

/-- accept of arithmetic at a value or at a stop: "". -/
theorem accept_none (P T : Nat) (ta : Option Addr) (cap : Nat) (ts : List Tok) (pos : Nat) (ob ocap : Nat) (ops : List ByteArray) (w : World) (h : Ps w P T ta cap ts pos) (hno : ops.length ≤ 100)
    (hs : Stp ts pos ∨ ∃ tx tq, Val ts pos tx tq) (hsub : ∀ o ∈ ops, o ∈ Arith) (ho : Ops w ob ops) :
    Calls Ybaf.prog 9 #[.pointer (some ⟨P, 0, none⟩), .slice (some ⟨ob, 0, none⟩) ops.length ocap] w fun e w' => e = .returned (.string ⟨#[]⟩) ∧ Ps w' P T ta cap ts pos ∧ Kp (fun k => k ≠ P) w w' := by
  rcases hs with (he | ⟨hp, _, hx⟩) | ⟨tx, tq, hp, hv⟩
  · exact accept_end P T ta cap ts pos _ _ _ w h he
  · have e := h.tk (by omega)
    subst e
    refine accept_no P T cap ts pos ob ocap ops w h hp hno (fun _ i hi => hx _ (hsub _ ?_)) ho
    rw [show ops.getD i ⟨#[]⟩ = ops[i] by simp [List.getD, hi]]
    exact List.getElem_mem hi
  · have e := h.tk (by omega)
    subst e
    refine accept_no P T cap ts pos ob ocap ops w h hp hno (fun ht => ?_) ho
    rw [hv] at ht
    cases ht

/-- operand where none begins: an error. -/
theorem operand_err (F : Interp) (P T : Nat) (ta : Option Addr) (cap : Nat) (ts : List Tok) (pos : Nat) (w : World) (h : Ps w P T ta cap ts pos) (hs : Stp ts pos) (hF : F.answers w.tape) (hPl : P < w.heap.size) (hTl : T < w.heap.size) :
    Calls Ybaf.prog 23 #[.pointer (some ⟨P, 0, none⟩)] w fun e w' => (∃ t x, e = .returned (.tuple #[.agg #[.string ⟨#[]⟩, .bool false], .iface t x])) ∧ Ps w' P T ta cap ts pos ∧ Kp (fun k => k ≠ P) w w' := by
  rcases hs with rfl | ⟨hp, ho, hx⟩
  · exact operand_end P T ta cap ts w h hPl hTl
  · have e := h.tk (by omega)
    subst e
    refine operand_op F P T cap ts pos w h hp (ts.getD pos noTok).text (ts.getD pos noTok).q ?_ (hx _ (by simp [Arith])) hF
    cases hh : ts.getD pos noTok with
    | mk o t q => rw [hh] at ho; simp at ho; rw [ho]

set_option maxRecDepth 100000 in
set_option maxHeartbeats 1000000 in
theorem unary_val (P T : Nat) (cap : Nat) (ts : List Tok) (pos : Nat) (w : World) (h : Ps w P T (some ⟨T, 0, none⟩) cap ts pos) (tx : ByteArray) (tq : Bool) (hv : Val ts pos tx tq) :
    Calls Ybaf.prog 17 #[.pointer (some ⟨P, 0, none⟩)] w fun e w' => e = .returned (.tuple #[.agg #[.string tx, .bool tq], .nilIface]) ∧ Ps w' P T (some ⟨T, 0, none⟩) cap ts (pos + 1) ∧ Kp (fun k => k ≠ P) w w' := by
  have H : Hid (Ps w P T (some ⟨T, 0, none⟩) cap ts pos) := h
  have HV : Hid (Val ts pos tx tq) := hv
  have hPl := lt_of_row h.st
  have hTl : T < w.heap.size := World.block_lt_of_cell? w _ (h.cl pos hv.1).1
  clear h hv
  go_enter Ybaf.func17, Ybaf.ntmps17
  go_wp2_with fail
  have hops := ops_row (w.alloc (.cells #[.string ⟨#[]⟩, .bool false] 28)) [⟨#[45]⟩, ⟨#[33]⟩] 9
  rw [show (w.alloc (.cells #[.string ⟨#[]⟩, .bool false] 28)).heap.size = w.heap.size + 1 by simp] at hops
  have k0 : Kp (fun _ => True) w ((w.alloc (.cells #[.string ⟨#[]⟩, .bool false] 28)).alloc (.cells #[.string ⟨#[45]⟩, .string ⟨#[33]⟩] 9)) := ((Kp.refl _ _).alloc _).alloc _
  have hR0 : ((w.alloc (.cells #[.string ⟨#[]⟩, .bool false] 28)).alloc (.cells #[.string ⟨#[45]⟩, .string ⟨#[33]⟩] 9)).heap[w.heap.size]? = some (.cells #[.string ⟨#[]⟩, .bool false] 28 (0, 0)) := ((Kp.refl (fun _ => True) _).alloc _).row (heap_alloc_new w _) trivial
  refine (accept_none P T (some ⟨T, 0, none⟩) cap ts pos (w.heap.size + 1) 2 [⟨#[45]⟩, ⟨#[33]⟩] _ (ps_kp H.out k0) (by simp) (.inr ⟨_, _, HV.out⟩) (by simp [Arith]) hops).mono ?_
  rintro e w1 ⟨rfl, hps, hk⟩
  have hR1 := hk.row hR0 (show w.heap.size ≠ P by omega)
  have HK : Hid (Kp (fun k => k ≠ P) w w1) := (k0.mono (fun _ _ _ => trivial)).trans hk
  have H1 : Hid (Ps w1 P T (some ⟨T, 0, none⟩) cap ts pos) := hps
  have HR1 : Hid (w1.heap[w.heap.size]? = some (.cells #[.string ⟨#[]⟩, .bool false] 28 (0, 0))) := hR1
  clear hops k0 hR0 hps hk hR1
  go_wp2_with fail
  refine (operand_val P T cap ts pos w1 H1.out HV.out.1 tx tq HV.out.2).mono ?_
  rintro e w2 ⟨rfl, hps, hk⟩
  have hR2 := hk.row HR1.out (show w.heap.size ≠ P by omega)
  have HK2 : Hid (Kp (fun k => k ≠ P) w w2) := HK.out.trans hk
  have H2 : Hid (Ps w2 P T (some ⟨T, 0, none⟩) cap ts (pos + 1)) := hps
  obtain ⟨r0, r1, g0, g1⟩ := two_cells hR2
  clear hps hk hR2
  go_wp2
  refine bodyPost_ret (v := .tuple #[.agg #[.string tx, .bool tq], .nilIface]) (by simp [results, Ybaf.results17, go_sem, r0, r1]) rfl ⟨rfl, ?_, ?_⟩
  · exact ps_kpp (p := fun k => k ≠ w.heap.size) H2.out ((((Kp.refl _ _).setCell (by simp) _).setCell (by simp) _)) (by omega) (by omega)
  · exact ((HK2.out.setCell (by simp) _).setCell (by simp) _)
set_option maxRecDepth 100000 in
set_option maxHeartbeats 1000000 in
theorem unary_err (F : Interp) (P T : Nat) (ta : Option Addr) (cap : Nat) (ts : List Tok) (pos : Nat) (w : World) (h : Ps w P T ta cap ts pos) (hv : Stp ts pos) (hF : F.answers w.tape) (hPl : P < w.heap.size) (hTl : T < w.heap.size) :
    Calls Ybaf.prog 17 #[.pointer (some ⟨P, 0, none⟩)] w fun e w' => (∃ t x, e = .returned (.tuple #[.agg #[.string ⟨#[]⟩, .bool false], .iface t x])) ∧ Ps w' P T ta cap ts pos ∧ Kp (fun k => k ≠ P) w w' := by
  have H : Hid (Ps w P T ta cap ts pos) := h
  have HV : Hid (Stp ts pos) := hv
  have HF : Hid (F.answers w.tape) := hF
  clear h hv hF
  go_enter Ybaf.func17, Ybaf.ntmps17
  go_wp2_with fail
  have hops := ops_row (w.alloc (.cells #[.string ⟨#[]⟩, .bool false] 28)) [⟨#[45]⟩, ⟨#[33]⟩] 9
  rw [show (w.alloc (.cells #[.string ⟨#[]⟩, .bool false] 28)).heap.size = w.heap.size + 1 by simp] at hops
  have k0 : Kp (fun _ => True) w ((w.alloc (.cells #[.string ⟨#[]⟩, .bool false] 28)).alloc (.cells #[.string ⟨#[45]⟩, .string ⟨#[33]⟩] 9)) := ((Kp.refl _ _).alloc _).alloc _
  have hR0 : ((w.alloc (.cells #[.string ⟨#[]⟩, .bool false] 28)).alloc (.cells #[.string ⟨#[45]⟩, .string ⟨#[33]⟩] 9)).heap[w.heap.size]? = some (.cells #[.string ⟨#[]⟩, .bool false] 28 (0, 0)) := ((Kp.refl (fun _ => True) _).alloc _).row (heap_alloc_new w _) trivial
  refine (accept_none P T ta cap ts pos (w.heap.size + 1) 2 [⟨#[45]⟩, ⟨#[33]⟩] _ (ps_kp H.out k0) (by simp) (.inl HV.out) (by simp [Arith]) hops).mono ?_
  rintro e w1 ⟨rfl, hps, hk⟩
  have hR1 := hk.row hR0 (show w.heap.size ≠ P by omega)
  have HK : Hid (Kp (fun k => k ≠ P) w w1) := (k0.mono (fun _ _ _ => trivial)).trans hk
  have H1 : Hid (Ps w1 P T ta cap ts pos) := hps
  have HR1 : Hid (w1.heap[w.heap.size]? = some (.cells #[.string ⟨#[]⟩, .bool false] 28 (0, 0))) := hR1
  clear hops k0 hR0 hps hk hR1
  go_wp2_with fail
  have hsz := HK.out.size
  refine (operand_err F P T ta cap ts pos w1 H1.out HV.out (by rw [HK.out.tape]; exact HF.out) (by omega) (by omega)).mono ?_
  rintro e w2 ⟨⟨tt, xx, rfl⟩, hps, hk⟩
  have hR2 := hk.row HR1.out (show w.heap.size ≠ P by omega)
  have HK2 : Hid (Kp (fun k => k ≠ P) w w2) := HK.out.trans hk
  have H2 : Hid (Ps w2 P T ta cap ts pos) := hps
  obtain ⟨r0, r1, g0, g1⟩ := two_cells hR2
  clear hps hk hR2
  go_wp2
  refine bodyPost_ret (v := .tuple #[.agg #[.string ⟨#[]⟩, .bool false], .iface tt xx]) (by simp [results, Ybaf.results17, go_sem, r0, r1]) rfl ⟨⟨_, _, rfl⟩, ?_, ?_⟩
  · exact ps_kpp (p := fun k => k ≠ w.heap.size) H2.out ((((Kp.refl _ _).setCell (by simp) _).setCell (by simp) _)) (by omega) (by omega)
  · exact ((HK2.out.setCell (by simp) _).setCell (by simp) _)
end Go.Proofs.YbulkawlyFmt.Ac
