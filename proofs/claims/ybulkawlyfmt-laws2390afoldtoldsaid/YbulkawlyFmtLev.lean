import Derived.Test.YbulkawlyFmtUna
namespace Go.Proofs.YbulkawlyFmt.Ac
open Go.ChangeShapes Go.WideShapes Go.ChangeAt Go.RowKit Go.Proofs.YbulkawlyFmt.Lw Go.Proofs.YbulkawlyFmt
open Go.Stop (Interp)

set_option maxRecDepth 100000 in
set_option maxHeartbeats 1000000 in
theorem levU_val (P T : Nat) (cap : Nat) (ts : List Tok) (pos : Nat) (ob ocap : Nat) (ops : List ByteArray) (w : World) (h : Ps w P T (some ⟨T, 0, none⟩) cap ts pos) (tx : ByteArray) (tq : Bool) (hv : Val ts pos tx tq) (hs : Stp ts (pos + 1))
    (hno : ops.length ≤ 100) (hsub : ∀ o ∈ ops, o ∈ Arith) (ho : Ops w ob ops) (hoP : ob ≠ P) :
    Calls Ybaf.prog 12 #[.pointer (some ⟨P, 0, none⟩), .func (.func 17) #[.pointer (some ⟨P, 0, none⟩)] #[], .slice (some ⟨ob, 0, none⟩) ops.length ocap] w fun e w' => e = .returned (.tuple #[.agg #[.string tx, .bool tq], .nilIface]) ∧ Ps w' P T (some ⟨T, 0, none⟩) cap ts (pos + 1) ∧ Kp (fun k => k ≠ P) w w' := by
  have H : Hid (Ps w P T (some ⟨T, 0, none⟩) cap ts pos) := h
  have HV : Hid (Val ts pos tx tq) := hv
  have HS : Hid (Stp ts (pos + 1)) := hs
  have HO : Hid (Ops w ob ops) := ho
  have HSB : Hid (∀ o ∈ ops, o ∈ Arith) := hsub
  have hPl := lt_of_row h.st
  have hTl : T < w.heap.size := World.block_lt_of_cell? w _ (h.cl pos hv.1).1
  clear h hv hs ho hsub
  go_enter Ybaf.func12, Ybaf.ntmps12
  go_wp2_with fail
  have k0 : Kp (fun _ => True) w (w.alloc (.cells #[.string ⟨#[]⟩, .bool false] 28)) := (Kp.refl _ _).alloc _
  refine (unary_val P T cap ts pos _ (ps_kp H.out k0) tx tq HV.out).mono ?_
  rintro e w1 ⟨rfl, hps, hk⟩
  have hR1 := hk.row (heap_alloc_new w _) (show w.heap.size ≠ P by omega)
  have HK : Hid (Kp (fun k => k ≠ P) w w1) := (k0.mono (fun _ _ _ => trivial)).trans hk
  have H1 : Hid (Ps w1 P T (some ⟨T, 0, none⟩) cap ts (pos + 1)) := hps
  have HR1 : Hid (w1.heap[w.heap.size]? = some (.cells #[.string ⟨#[]⟩, .bool false] 28 (0, 0))) := hR1
  have hRl1 : w.heap.size < w1.heap.size := lt_of_row hR1
  clear k0 hps hk hR1
  go_wp2
  have k1 : Kp (fun _ => True) w1 (w1.alloc (.cells #[.string tx, .bool tq] 28)) := (Kp.refl _ _).alloc _
  have H2 : Hid (Ps (w1.alloc (.cells #[.string tx, .bool tq] 28)) P T (some ⟨T, 0, none⟩) cap ts (pos + 1)) := ps_kp H1.out k1
  have HK2 : Hid (Kp (fun k => k ≠ P) w (w1.alloc (.cells #[.string tx, .bool tq] 28))) := HK.out.trans (k1.mono (fun _ _ _ => trivial))
  have HR2 : Hid ((w1.alloc (.cells #[.string tx, .bool tq] 28)).heap[w.heap.size]? = some (.cells #[.string ⟨#[]⟩, .bool false] 28 (0, 0))) := k1.row HR1.out trivial
  have HV2 : Hid ((w1.alloc (.cells #[.string tx, .bool tq] 28)).heap[w1.heap.size]? = some (.cells #[.string tx, .bool tq] 28 (0, 0))) := heap_alloc_new w1 _
  have hP1 : P < w1.heap.size := lt_of_row H1.out.st
  have hT1 : T < w1.heap.size := by have := HK.out.size; omega
  generalize w1.alloc (.cells #[.string tx, .bool tq] 28) = w2 at *
  clear k1 H1 HK HR1
  go_loopw [9] (fun er wr => er = .nilIface ∧ wr = w2) (fun _ _ => 0)
  case atStart => exact ⟨rfl, rfl⟩
  case round =>
    obtain ⟨rfl, rfl⟩ := hrel
    go_wp2_with fail
    refine (accept_none P T (some ⟨T, 0, none⟩) cap ts (pos + 1) ob ocap ops _ H2.out hno (.inl HS.out) HSB.out (ops_kp HO.out HK2.out hoP)).mono ?_
    rintro e w3 ⟨rfl, hps, hk⟩
    have hR3 := hk.row HR2.out (show w.heap.size ≠ P by omega)
    have hV3 := hk.row HV2.out (show w1.heap.size ≠ P by omega)
    have HK3 : Hid (Kp (fun k => k ≠ P) w w3) := HK2.out.trans hk
    have H3 : Hid (Ps w3 P T (some ⟨T, 0, none⟩) cap ts (pos + 1)) := hps
    obtain ⟨r0, r1, g0, g1⟩ := two_cells hR3
    obtain ⟨v0, v1, _, _⟩ := two_cells hV3
    clear hps hk hR3 hV3
    go_wp2
    refine bodyPost_ret (v := .tuple #[.agg #[.string tx, .bool tq], .nilIface]) (by simp [results, Ybaf.results12, go_sem, r0, r1]) rfl ⟨rfl, ?_, ?_⟩
    · exact ps_kpp (p := fun k => k ≠ w.heap.size) H3.out ((((Kp.refl _ _).setCell (by simp) _).setCell (by simp) _)) (by omega) (by omega)
    · exact ((HK3.out.setCell (by simp) _).setCell (by simp) _)

set_option maxRecDepth 100000 in
set_option maxHeartbeats 1000000 in
theorem levU_err (F : Interp) (P T : Nat) (ta : Option Addr) (cap : Nat) (ts : List Tok) (pos : Nat) (ops : Value) (w : World) (h : Ps w P T ta cap ts pos) (hv : Stp ts pos) (hF : F.answers w.tape) (hPl : P < w.heap.size) (hTl : T < w.heap.size) :
    Calls Ybaf.prog 12 #[.pointer (some ⟨P, 0, none⟩), .func (.func 17) #[.pointer (some ⟨P, 0, none⟩)] #[], ops] w fun e w' => (∃ t x, e = .returned (.tuple #[.agg #[.string ⟨#[]⟩, .bool false], .iface t x])) ∧ Ps w' P T ta cap ts pos ∧ Kp (fun k => k ≠ P) w w' := by
  have H : Hid (Ps w P T ta cap ts pos) := h
  have HV : Hid (Stp ts pos) := hv
  have HF : Hid (F.answers w.tape) := hF
  clear h hv hF
  go_enter Ybaf.func12, Ybaf.ntmps12
  go_wp2_with fail
  have k0 : Kp (fun _ => True) w (w.alloc (.cells #[.string ⟨#[]⟩, .bool false] 28)) := (Kp.refl _ _).alloc _
  have hsz := k0.size
  refine (unary_err F P T ta cap ts pos _ (ps_kp H.out k0) HV.out (by rw [k0.tape]; exact HF.out) (by omega) (by omega)).mono ?_
  rintro e w1 ⟨⟨tt, xx, rfl⟩, hps, hk⟩
  have hR1 := hk.row (heap_alloc_new w _) (show w.heap.size ≠ P by omega)
  have HK : Hid (Kp (fun k => k ≠ P) w w1) := (k0.mono (fun _ _ _ => trivial)).trans hk
  have H1 : Hid (Ps w1 P T ta cap ts pos) := hps
  have hRl1 : w.heap.size < w1.heap.size := lt_of_row hR1
  obtain ⟨r0, r1, g0, g1⟩ := two_cells hR1
  clear k0 hps hk hR1 hsz
  go_wp2
  go_loop [9] (fun er => er = .iface tt xx) (fun _ => 0)
  case atStart => rfl
  case round =>
    subst hrel
    go_wp2
    refine bodyPost_ret (v := .tuple #[.agg #[.string ⟨#[]⟩, .bool false], .iface tt xx]) (by simp [results, Ybaf.results12, go_sem, r0, r1, hRl1]) rfl ⟨⟨_, _, rfl⟩, ?_, ?_⟩
    · exact ps_kpp (p := fun k => k ≠ w.heap.size) H1.out (((((Kp.refl _ _).setCell (by simp) _).setCell (by simp) _)).alloc _) (by omega) (by omega)
    · exact ((HK.out.setCell (by simp) _).setCell (by simp) _).alloc _


set_option maxRecDepth 100000 in
set_option maxHeartbeats 1000000 in
theorem product_val (P T : Nat) (cap : Nat) (ts : List Tok) (pos : Nat) (w : World) (h : Ps w P T (some ⟨T, 0, none⟩) cap ts pos) (tx : ByteArray) (tq : Bool) (hv : Val ts pos tx tq) (hs : Stp ts (pos + 1)) :
    Calls Ybaf.prog 13 #[.pointer (some ⟨P, 0, none⟩)] w fun e w' => e = .returned (.tuple #[.agg #[.string tx, .bool tq], .nilIface]) ∧ Ps w' P T (some ⟨T, 0, none⟩) cap ts (pos + 1) ∧ Kp (fun k => k ≠ P) w w' := by
  have H : Hid (Ps w P T (some ⟨T, 0, none⟩) cap ts pos) := h
  have HV : Hid (Val ts pos tx tq) := hv
  have HS : Hid (Stp ts (pos + 1)) := hs
  have hPl := lt_of_row h.st
  have hTl : T < w.heap.size := World.block_lt_of_cell? w _ (h.cl pos hv.1).1
  clear h hv hs
  go_enter Ybaf.func13, Ybaf.ntmps13
  go_wp2_with fail
  have hops := ops_row (w.alloc (.cells #[.string ⟨#[]⟩, .bool false] 28)) [⟨#[42]⟩, ⟨#[47]⟩, ⟨#[37]⟩] 9
  rw [show (w.alloc (.cells #[.string ⟨#[]⟩, .bool false] 28)).heap.size = w.heap.size + 1 by simp] at hops
  have k0 : Kp (fun _ => True) w ((w.alloc (.cells #[.string ⟨#[]⟩, .bool false] 28)).alloc (.cells #[.string ⟨#[42]⟩, .string ⟨#[47]⟩, .string ⟨#[37]⟩] 9)) := ((Kp.refl _ _).alloc _).alloc _
  have hR0 : ((w.alloc (.cells #[.string ⟨#[]⟩, .bool false] 28)).alloc (.cells #[.string ⟨#[42]⟩, .string ⟨#[47]⟩, .string ⟨#[37]⟩] 9)).heap[w.heap.size]? = some (.cells #[.string ⟨#[]⟩, .bool false] 28 (0, 0)) := ((Kp.refl (fun _ => True) _).alloc _).row (heap_alloc_new w _) trivial
  refine (levU_val P T cap ts pos (w.heap.size + 1) 3 [⟨#[42]⟩, ⟨#[47]⟩, ⟨#[37]⟩] _ (ps_kp H.out k0) tx tq HV.out HS.out (by simp) (by simp [Arith]) hops (by omega)).mono ?_
  rintro e w1 ⟨rfl, hps, hk⟩
  have hR1 := hk.row hR0 (show w.heap.size ≠ P by omega)
  have HK : Hid (Kp (fun k => k ≠ P) w w1) := (k0.mono (fun _ _ _ => trivial)).trans hk
  have H1 : Hid (Ps w1 P T (some ⟨T, 0, none⟩) cap ts (pos + 1)) := hps
  obtain ⟨r0, r1, g0, g1⟩ := two_cells hR1
  clear hops k0 hR0 hps hk hR1
  go_wp2
  refine bodyPost_ret (v := .tuple #[.agg #[.string tx, .bool tq], .nilIface]) (by simp [results, Ybaf.results13, go_sem, r0, r1]) rfl ⟨rfl, ?_, ?_⟩
  · exact ps_kpp (p := fun k => k ≠ w.heap.size) H1.out ((((Kp.refl _ _).setCell (by simp) _).setCell (by simp) _)) (by omega) (by omega)
  · exact ((HK.out.setCell (by simp) _).setCell (by simp) _)

set_option maxRecDepth 100000 in
set_option maxHeartbeats 1000000 in
theorem product_err (F : Interp) (P T : Nat) (ta : Option Addr) (cap : Nat) (ts : List Tok) (pos : Nat) (w : World) (h : Ps w P T ta cap ts pos) (hv : Stp ts pos) (hF : F.answers w.tape) (hPl : P < w.heap.size) (hTl : T < w.heap.size) :
    Calls Ybaf.prog 13 #[.pointer (some ⟨P, 0, none⟩)] w fun e w' => (∃ t x, e = .returned (.tuple #[.agg #[.string ⟨#[]⟩, .bool false], .iface t x])) ∧ Ps w' P T ta cap ts pos ∧ Kp (fun k => k ≠ P) w w' := by
  have H : Hid (Ps w P T ta cap ts pos) := h
  have HV : Hid (Stp ts pos) := hv
  have HF : Hid (F.answers w.tape) := hF
  clear h hv hF
  go_enter Ybaf.func13, Ybaf.ntmps13
  go_wp2_with fail
  have k0 : Kp (fun _ => True) w ((w.alloc (.cells #[.string ⟨#[]⟩, .bool false] 28)).alloc (.cells #[.string ⟨#[42]⟩, .string ⟨#[47]⟩, .string ⟨#[37]⟩] 9)) := ((Kp.refl _ _).alloc _).alloc _
  have hR0 : ((w.alloc (.cells #[.string ⟨#[]⟩, .bool false] 28)).alloc (.cells #[.string ⟨#[42]⟩, .string ⟨#[47]⟩, .string ⟨#[37]⟩] 9)).heap[w.heap.size]? = some (.cells #[.string ⟨#[]⟩, .bool false] 28 (0, 0)) := ((Kp.refl (fun _ => True) _).alloc _).row (heap_alloc_new w _) trivial
  have hsz := k0.size
  refine (levU_err F P T ta cap ts pos _ _ (ps_kp H.out k0) HV.out (by rw [k0.tape]; exact HF.out) (by omega) (by omega)).mono ?_
  rintro e w1 ⟨⟨tt, xx, rfl⟩, hps, hk⟩
  have hR1 := hk.row hR0 (show w.heap.size ≠ P by omega)
  have HK : Hid (Kp (fun k => k ≠ P) w w1) := (k0.mono (fun _ _ _ => trivial)).trans hk
  have H1 : Hid (Ps w1 P T ta cap ts pos) := hps
  obtain ⟨r0, r1, g0, g1⟩ := two_cells hR1
  clear k0 hR0 hps hk hR1 hsz
  go_wp2
  refine bodyPost_ret (v := .tuple #[.agg #[.string ⟨#[]⟩, .bool false], .iface tt xx]) (by simp [results, Ybaf.results13, go_sem, r0, r1]) rfl ⟨⟨_, _, rfl⟩, ?_, ?_⟩
  · exact ps_kpp (p := fun k => k ≠ w.heap.size) H1.out ((((Kp.refl _ _).setCell (by simp) _).setCell (by simp) _)) (by omega) (by omega)
  · exact ((HK.out.setCell (by simp) _).setCell (by simp) _)


set_option maxRecDepth 100000 in
set_option maxHeartbeats 1000000 in
theorem levP_val (P T : Nat) (cap : Nat) (ts : List Tok) (pos : Nat) (ob ocap : Nat) (ops : List ByteArray) (w : World) (h : Ps w P T (some ⟨T, 0, none⟩) cap ts pos) (tx : ByteArray) (tq : Bool) (hv : Val ts pos tx tq) (hs : Stp ts (pos + 1))
    (hno : ops.length ≤ 100) (hsub : ∀ o ∈ ops, o ∈ Arith) (ho : Ops w ob ops) (hoP : ob ≠ P) :
    Calls Ybaf.prog 12 #[.pointer (some ⟨P, 0, none⟩), .func (.func 13) #[.pointer (some ⟨P, 0, none⟩)] #[], .slice (some ⟨ob, 0, none⟩) ops.length ocap] w fun e w' => e = .returned (.tuple #[.agg #[.string tx, .bool tq], .nilIface]) ∧ Ps w' P T (some ⟨T, 0, none⟩) cap ts (pos + 1) ∧ Kp (fun k => k ≠ P) w w' := by
  have H : Hid (Ps w P T (some ⟨T, 0, none⟩) cap ts pos) := h
  have HV : Hid (Val ts pos tx tq) := hv
  have HS : Hid (Stp ts (pos + 1)) := hs
  have HO : Hid (Ops w ob ops) := ho
  have HSB : Hid (∀ o ∈ ops, o ∈ Arith) := hsub
  have hPl := lt_of_row h.st
  have hTl : T < w.heap.size := World.block_lt_of_cell? w _ (h.cl pos hv.1).1
  clear h hv hs ho hsub
  go_enter Ybaf.func12, Ybaf.ntmps12
  go_wp2_with fail
  have k0 : Kp (fun _ => True) w (w.alloc (.cells #[.string ⟨#[]⟩, .bool false] 28)) := (Kp.refl _ _).alloc _
  refine (product_val P T cap ts pos _ (ps_kp H.out k0) tx tq HV.out HS.out).mono ?_
  rintro e w1 ⟨rfl, hps, hk⟩
  have hR1 := hk.row (heap_alloc_new w _) (show w.heap.size ≠ P by omega)
  have HK : Hid (Kp (fun k => k ≠ P) w w1) := (k0.mono (fun _ _ _ => trivial)).trans hk
  have H1 : Hid (Ps w1 P T (some ⟨T, 0, none⟩) cap ts (pos + 1)) := hps
  have HR1 : Hid (w1.heap[w.heap.size]? = some (.cells #[.string ⟨#[]⟩, .bool false] 28 (0, 0))) := hR1
  have hRl1 : w.heap.size < w1.heap.size := lt_of_row hR1
  clear k0 hps hk hR1
  go_wp2
  have k1 : Kp (fun _ => True) w1 (w1.alloc (.cells #[.string tx, .bool tq] 28)) := (Kp.refl _ _).alloc _
  have H2 : Hid (Ps (w1.alloc (.cells #[.string tx, .bool tq] 28)) P T (some ⟨T, 0, none⟩) cap ts (pos + 1)) := ps_kp H1.out k1
  have HK2 : Hid (Kp (fun k => k ≠ P) w (w1.alloc (.cells #[.string tx, .bool tq] 28))) := HK.out.trans (k1.mono (fun _ _ _ => trivial))
  have HR2 : Hid ((w1.alloc (.cells #[.string tx, .bool tq] 28)).heap[w.heap.size]? = some (.cells #[.string ⟨#[]⟩, .bool false] 28 (0, 0))) := k1.row HR1.out trivial
  have HV2 : Hid ((w1.alloc (.cells #[.string tx, .bool tq] 28)).heap[w1.heap.size]? = some (.cells #[.string tx, .bool tq] 28 (0, 0))) := heap_alloc_new w1 _
  have hP1 : P < w1.heap.size := lt_of_row H1.out.st
  have hT1 : T < w1.heap.size := by have := HK.out.size; omega
  generalize w1.alloc (.cells #[.string tx, .bool tq] 28) = w2 at *
  clear k1 H1 HK HR1
  go_loopw [9] (fun er wr => er = .nilIface ∧ wr = w2) (fun _ _ => 0)
  case atStart => exact ⟨rfl, rfl⟩
  case round =>
    obtain ⟨rfl, rfl⟩ := hrel
    go_wp2_with fail
    refine (accept_none P T (some ⟨T, 0, none⟩) cap ts (pos + 1) ob ocap ops _ H2.out hno (.inl HS.out) HSB.out (ops_kp HO.out HK2.out hoP)).mono ?_
    rintro e w3 ⟨rfl, hps, hk⟩
    have hR3 := hk.row HR2.out (show w.heap.size ≠ P by omega)
    have hV3 := hk.row HV2.out (show w1.heap.size ≠ P by omega)
    have HK3 : Hid (Kp (fun k => k ≠ P) w w3) := HK2.out.trans hk
    have H3 : Hid (Ps w3 P T (some ⟨T, 0, none⟩) cap ts (pos + 1)) := hps
    obtain ⟨r0, r1, g0, g1⟩ := two_cells hR3
    obtain ⟨v0, v1, _, _⟩ := two_cells hV3
    clear hps hk hR3 hV3
    go_wp2
    refine bodyPost_ret (v := .tuple #[.agg #[.string tx, .bool tq], .nilIface]) (by simp [results, Ybaf.results12, go_sem, r0, r1]) rfl ⟨rfl, ?_, ?_⟩
    · exact ps_kpp (p := fun k => k ≠ w.heap.size) H3.out ((((Kp.refl _ _).setCell (by simp) _).setCell (by simp) _)) (by omega) (by omega)
    · exact ((HK3.out.setCell (by simp) _).setCell (by simp) _)

set_option maxRecDepth 100000 in
set_option maxHeartbeats 1000000 in
theorem levP_err (F : Interp) (P T : Nat) (ta : Option Addr) (cap : Nat) (ts : List Tok) (pos : Nat) (ops : Value) (w : World) (h : Ps w P T ta cap ts pos) (hv : Stp ts pos) (hF : F.answers w.tape) (hPl : P < w.heap.size) (hTl : T < w.heap.size) :
    Calls Ybaf.prog 12 #[.pointer (some ⟨P, 0, none⟩), .func (.func 13) #[.pointer (some ⟨P, 0, none⟩)] #[], ops] w fun e w' => (∃ t x, e = .returned (.tuple #[.agg #[.string ⟨#[]⟩, .bool false], .iface t x])) ∧ Ps w' P T ta cap ts pos ∧ Kp (fun k => k ≠ P) w w' := by
  have H : Hid (Ps w P T ta cap ts pos) := h
  have HV : Hid (Stp ts pos) := hv
  have HF : Hid (F.answers w.tape) := hF
  clear h hv hF
  go_enter Ybaf.func12, Ybaf.ntmps12
  go_wp2_with fail
  have k0 : Kp (fun _ => True) w (w.alloc (.cells #[.string ⟨#[]⟩, .bool false] 28)) := (Kp.refl _ _).alloc _
  have hsz := k0.size
  refine (product_err F P T ta cap ts pos _ (ps_kp H.out k0) HV.out (by rw [k0.tape]; exact HF.out) (by omega) (by omega)).mono ?_
  rintro e w1 ⟨⟨tt, xx, rfl⟩, hps, hk⟩
  have hR1 := hk.row (heap_alloc_new w _) (show w.heap.size ≠ P by omega)
  have HK : Hid (Kp (fun k => k ≠ P) w w1) := (k0.mono (fun _ _ _ => trivial)).trans hk
  have H1 : Hid (Ps w1 P T ta cap ts pos) := hps
  have hRl1 : w.heap.size < w1.heap.size := lt_of_row hR1
  obtain ⟨r0, r1, g0, g1⟩ := two_cells hR1
  clear k0 hps hk hR1 hsz
  go_wp2
  go_loop [9] (fun er => er = .iface tt xx) (fun _ => 0)
  case atStart => rfl
  case round =>
    subst hrel
    go_wp2
    refine bodyPost_ret (v := .tuple #[.agg #[.string ⟨#[]⟩, .bool false], .iface tt xx]) (by simp [results, Ybaf.results12, go_sem, r0, r1, hRl1]) rfl ⟨⟨_, _, rfl⟩, ?_, ?_⟩
    · exact ps_kpp (p := fun k => k ≠ w.heap.size) H1.out (((((Kp.refl _ _).setCell (by simp) _).setCell (by simp) _)).alloc _) (by omega) (by omega)
    · exact ((HK.out.setCell (by simp) _).setCell (by simp) _).alloc _


set_option maxRecDepth 100000 in
set_option maxHeartbeats 1000000 in
theorem sum_val (P T : Nat) (cap : Nat) (ts : List Tok) (pos : Nat) (w : World) (h : Ps w P T (some ⟨T, 0, none⟩) cap ts pos) (tx : ByteArray) (tq : Bool) (hv : Val ts pos tx tq) (hs : Stp ts (pos + 1)) :
    Calls Ybaf.prog 8 #[.pointer (some ⟨P, 0, none⟩)] w fun e w' => e = .returned (.tuple #[.agg #[.string tx, .bool tq], .nilIface]) ∧ Ps w' P T (some ⟨T, 0, none⟩) cap ts (pos + 1) ∧ Kp (fun k => k ≠ P) w w' := by
  have H : Hid (Ps w P T (some ⟨T, 0, none⟩) cap ts pos) := h
  have HV : Hid (Val ts pos tx tq) := hv
  have HS : Hid (Stp ts (pos + 1)) := hs
  have hPl := lt_of_row h.st
  have hTl : T < w.heap.size := World.block_lt_of_cell? w _ (h.cl pos hv.1).1
  clear h hv hs
  go_enter Ybaf.func8, Ybaf.ntmps8
  go_wp2_with fail
  have hops := ops_row (w.alloc (.cells #[.string ⟨#[]⟩, .bool false] 28)) [⟨#[43]⟩, ⟨#[45]⟩] 9
  rw [show (w.alloc (.cells #[.string ⟨#[]⟩, .bool false] 28)).heap.size = w.heap.size + 1 by simp] at hops
  have k0 : Kp (fun _ => True) w ((w.alloc (.cells #[.string ⟨#[]⟩, .bool false] 28)).alloc (.cells #[.string ⟨#[43]⟩, .string ⟨#[45]⟩] 9)) := ((Kp.refl _ _).alloc _).alloc _
  have hR0 : ((w.alloc (.cells #[.string ⟨#[]⟩, .bool false] 28)).alloc (.cells #[.string ⟨#[43]⟩, .string ⟨#[45]⟩] 9)).heap[w.heap.size]? = some (.cells #[.string ⟨#[]⟩, .bool false] 28 (0, 0)) := ((Kp.refl (fun _ => True) _).alloc _).row (heap_alloc_new w _) trivial
  refine (levP_val P T cap ts pos (w.heap.size + 1) 2 [⟨#[43]⟩, ⟨#[45]⟩] _ (ps_kp H.out k0) tx tq HV.out HS.out (by simp) (by simp [Arith]) hops (by omega)).mono ?_
  rintro e w1 ⟨rfl, hps, hk⟩
  have hR1 := hk.row hR0 (show w.heap.size ≠ P by omega)
  have HK : Hid (Kp (fun k => k ≠ P) w w1) := (k0.mono (fun _ _ _ => trivial)).trans hk
  have H1 : Hid (Ps w1 P T (some ⟨T, 0, none⟩) cap ts (pos + 1)) := hps
  obtain ⟨r0, r1, g0, g1⟩ := two_cells hR1
  clear hops k0 hR0 hps hk hR1
  go_wp2
  refine bodyPost_ret (v := .tuple #[.agg #[.string tx, .bool tq], .nilIface]) (by simp [results, Ybaf.results8, go_sem, r0, r1]) rfl ⟨rfl, ?_, ?_⟩
  · exact ps_kpp (p := fun k => k ≠ w.heap.size) H1.out ((((Kp.refl _ _).setCell (by simp) _).setCell (by simp) _)) (by omega) (by omega)
  · exact ((HK.out.setCell (by simp) _).setCell (by simp) _)

set_option maxRecDepth 100000 in
set_option maxHeartbeats 1000000 in
theorem sum_err (F : Interp) (P T : Nat) (ta : Option Addr) (cap : Nat) (ts : List Tok) (pos : Nat) (w : World) (h : Ps w P T ta cap ts pos) (hv : Stp ts pos) (hF : F.answers w.tape) (hPl : P < w.heap.size) (hTl : T < w.heap.size) :
    Calls Ybaf.prog 8 #[.pointer (some ⟨P, 0, none⟩)] w fun e w' => (∃ t x, e = .returned (.tuple #[.agg #[.string ⟨#[]⟩, .bool false], .iface t x])) ∧ Ps w' P T ta cap ts pos ∧ Kp (fun k => k ≠ P) w w' := by
  have H : Hid (Ps w P T ta cap ts pos) := h
  have HV : Hid (Stp ts pos) := hv
  have HF : Hid (F.answers w.tape) := hF
  clear h hv hF
  go_enter Ybaf.func8, Ybaf.ntmps8
  go_wp2_with fail
  have k0 : Kp (fun _ => True) w ((w.alloc (.cells #[.string ⟨#[]⟩, .bool false] 28)).alloc (.cells #[.string ⟨#[43]⟩, .string ⟨#[45]⟩] 9)) := ((Kp.refl _ _).alloc _).alloc _
  have hR0 : ((w.alloc (.cells #[.string ⟨#[]⟩, .bool false] 28)).alloc (.cells #[.string ⟨#[43]⟩, .string ⟨#[45]⟩] 9)).heap[w.heap.size]? = some (.cells #[.string ⟨#[]⟩, .bool false] 28 (0, 0)) := ((Kp.refl (fun _ => True) _).alloc _).row (heap_alloc_new w _) trivial
  have hsz := k0.size
  refine (levP_err F P T ta cap ts pos _ _ (ps_kp H.out k0) HV.out (by rw [k0.tape]; exact HF.out) (by omega) (by omega)).mono ?_
  rintro e w1 ⟨⟨tt, xx, rfl⟩, hps, hk⟩
  have hR1 := hk.row hR0 (show w.heap.size ≠ P by omega)
  have HK : Hid (Kp (fun k => k ≠ P) w w1) := (k0.mono (fun _ _ _ => trivial)).trans hk
  have H1 : Hid (Ps w1 P T ta cap ts pos) := hps
  obtain ⟨r0, r1, g0, g1⟩ := two_cells hR1
  clear k0 hR0 hps hk hR1 hsz
  go_wp2
  refine bodyPost_ret (v := .tuple #[.agg #[.string ⟨#[]⟩, .bool false], .iface tt xx]) (by simp [results, Ybaf.results8, go_sem, r0, r1]) rfl ⟨⟨_, _, rfl⟩, ?_, ?_⟩
  · exact ps_kpp (p := fun k => k ≠ w.heap.size) H1.out ((((Kp.refl _ _).setCell (by simp) _).setCell (by simp) _)) (by omega) (by omega)
  · exact ((HK.out.setCell (by simp) _).setCell (by simp) _)

end Go.Proofs.YbulkawlyFmt.Ac
