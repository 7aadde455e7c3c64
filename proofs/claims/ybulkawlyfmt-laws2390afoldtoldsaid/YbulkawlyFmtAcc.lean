import Derived.Test.YbulkawlyFmtRows
import Derived.Test.YbulkawlyFmtLaws
import Derived.ProofKit
import Derived.WalkSpells
import Derived.WalkLawsBesides
import Derived.Deep.RegionLaw
namespace Go.Proofs.YbulkawlyFmt.Ac
open Go.ChangeShapes Go.WideShapes Go.ChangeAt Go.RowKit Go.Proofs.YbulkawlyFmt.Lw

/-- A token: is it an operator; its text; is it quoted. -/
structure Tok where
  op : Bool
  text : ByteArray
  q : Bool
def Tok.cells (t : Tok) : List Value := [.bool t.op, .string t.text, .bool t.q]
def row (ts : List Tok) : List Value := ts.flatMap Tok.cells
def noTok : Tok := ⟨false, ⟨#[]⟩, false⟩

/-- THE PARSER: its struct in block P, its tokens in block T (none: no tokens), 'pos' the next one. -/
structure Ps (w : World) (P T : Nat) (ta : Option Addr) (cap : Nat) (ts : List Tok) (pos : Nat) : Prop where
  st : w.heap[P]? = some (.cells [.slice ta ts.length cap, .int .i64 (pos : Int)].toArray 36 (0, 0))
  tk : 0 < ts.length → ta = some ⟨T, 0, none⟩
  cl : ∀ i, i < ts.length → w.cell? ⟨T, i * 3, none⟩ = some (.bool (ts.getD i noTok).op) ∧ w.cell? ⟨T, i * 3 + 1, none⟩ = some (.string (ts.getD i noTok).text) ∧ w.cell? ⟨T, i * 3 + 2, none⟩ = some (.bool (ts.getD i noTok).q)
  ne : T ≠ P
  ln : ts.length ≤ 100000
  ps : pos ≤ ts.length

theorem ps_kp {w w' : World} {P T : Nat} {ta : Option Addr} {cap : Nat} {ts : List Tok} {pos : Nat} (h : Ps w P T ta cap ts pos) (hk : Kp (fun _ => True) w w') : Ps w' P T ta cap ts pos :=
  ⟨hk.row h.st trivial, h.tk, fun i hi => ⟨cell_kp hk (h.cl i hi).1 trivial, cell_kp hk (h.cl i hi).2.1 trivial, cell_kp hk (h.cl i hi).2.2 trivial⟩, h.ne, h.ln, h.ps⟩
theorem ps_kpp {p : Nat → Prop} {w w' : World} {P T : Nat} {ta : Option Addr} {cap : Nat} {ts : List Tok} {pos : Nat} (h : Ps w P T ta cap ts pos) (hk : Kp p w w') (hP : p P) (hT : p T) : Ps w' P T ta cap ts pos :=
  ⟨hk.row h.st hP, h.tk, fun i hi => ⟨cell_kp hk (h.cl i hi).1 hT, cell_kp hk (h.cl i hi).2.1 hT, cell_kp hk (h.cl i hi).2.2 hT⟩, h.ne, h.ln, h.ps⟩
theorem ps_drewN {w : World} {P T : Nat} {ta : Option Addr} {cap : Nat} {ts : List Tok} {pos : Nat} (h : Ps w P T ta cap ts pos) (n : Nat) : Ps (w.drewN n) P T ta cap ts pos := ps_kp h ((Kp.refl _ _).drewN n)
/-- pos moves on. -/
theorem ps_pos {w : World} {P T : Nat} {ta : Option Addr} {cap : Nat} {ts : List Tok} {pos : Nat} (h : Ps w P T ta cap ts pos) (pos' : Nat) (hp : pos' ≤ ts.length) : Ps (w.setCell ⟨P, 1, none⟩ (.int .i64 (pos' : Int))) P T ta cap ts pos' := by
  have k : Kp (fun k => k ≠ P) w (w.setCell ⟨P, 1, none⟩ (.int .i64 (pos' : Int))) := (Kp.refl _ _).setCell (by simp) _
  refine ⟨?_, h.tk, fun i hi => ⟨cell_kp k (h.cl i hi).1 h.ne, cell_kp k (h.cl i hi).2.1 h.ne, cell_kp k (h.cl i hi).2.2 h.ne⟩, h.ne, h.ln, hp⟩
  rw [set_row h.st]; rfl

set_option maxRecDepth 100000 in
/-- accept at the end: "". -/
theorem accept_end (P T : Nat) (ta : Option Addr) (cap : Nat) (ts : List Tok) (pos : Nat) (oa : Option Addr) (no ocap : Nat) (w : World) (h : Ps w P T ta cap ts pos) (hp : pos = ts.length) :
    Calls Ybaf.prog 9 #[.pointer (some ⟨P, 0, none⟩), .slice oa no ocap] w fun e w' => e = .returned (.string ⟨#[]⟩) ∧ Ps w' P T ta cap ts pos ∧ Kp (fun k => k ≠ P) w w' := by
  have s0 : w.cell? ⟨P, 0, none⟩ = some (.slice ta ts.length cap) := by rw [cell_of_row w P 0 _ 36 (0, 0) h.st]; rfl
  have s1 : w.cell? ⟨P, 1, none⟩ = some (.int .i64 (pos : Int)) := by rw [cell_of_row w P 1 _ 36 (0, 0) h.st]; rfl
  have hnl : ¬ (pos : Int) < (ts.length : Int) := by omega
  have H : Hid (Ps w P T ta cap ts pos) := h
  clear h hp
  go_enter Ybaf.func9, Ybaf.ntmps9
  go_wp2
  go_quiet (fail)
  go_wp2
  go_ret
  have h := H.out
  exact ⟨rfl, ⟨h.st, h.tk, h.cl, h.ne, h.ln, h.ps⟩, (Kp.refl _ _).drewN _⟩

/-- The operators that are asked for: in block ob. -/
def Ops (w : World) (ob : Nat) (ops : List ByteArray) : Prop := ∀ i, i < ops.length → w.cell? ⟨ob, i, none⟩ = some (.string (ops.getD i ⟨#[]⟩))
theorem ops_kp {p : Nat → Prop} {w w' : World} {ob : Nat} {ops : List ByteArray} (h : Ops w ob ops) (hk : Kp p w w') (hp : p ob) : Ops w' ob ops := fun i hi => cell_kp hk (h i hi) hp

set_option maxRecDepth 100000 in
set_option maxHeartbeats 1000000 in
/-- accept at a token that is none of those asked for: "". -/
theorem accept_no (P T : Nat) (cap : Nat) (ts : List Tok) (pos : Nat) (ob ocap : Nat) (ops : List ByteArray) (w : World) (h : Ps w P T (some ⟨T, 0, none⟩) cap ts pos) (hp : pos < ts.length) (hno : ops.length ≤ 100)
    (hop : (ts.getD pos noTok).op = true → ∀ i, i < ops.length → ((ts.getD pos noTok).text.toList == (ops.getD i ⟨#[]⟩).toList) = false) (ho : Ops w ob ops) :
    Calls Ybaf.prog 9 #[.pointer (some ⟨P, 0, none⟩), .slice (some ⟨ob, 0, none⟩) ops.length ocap] w fun e w' => e = .returned (.string ⟨#[]⟩) ∧ Ps w' P T (some ⟨T, 0, none⟩) cap ts pos ∧ Kp (fun k => k ≠ P) w w' := by
  have s0 : w.cell? ⟨P, 0, none⟩ = some (.slice (some ⟨T, 0, none⟩) ts.length cap) := by rw [cell_of_row w P 0 _ 36 (0, 0) h.st]; rfl
  have s1 : w.cell? ⟨P, 1, none⟩ = some (.int .i64 (pos : Int)) := by rw [cell_of_row w P 1 _ 36 (0, 0) h.st]; rfl
  have hnl : (pos : Int) < (ts.length : Int) := by omega
  obtain ⟨c0, c1, c2⟩ := h.cl pos hp
  generalize (ts.getD pos noTok).text = tx at c1 hop
  generalize (ts.getD pos noTok).q = tq at c2
  generalize (ts.getD pos noTok).op = top at c0 hop
  have H : Hid (Ps w P T (some ⟨T, 0, none⟩) cap ts pos) := h
  have HO : Hid (Ops w ob ops) := ho
  have HX : Hid (top = true → ∀ i, i < ops.length → (tx.toList == (ops.getD i ⟨#[]⟩).toList) = false) := hop
  have hPl := lt_of_row h.st
  have hTl : T < w.heap.size := World.block_lt_of_cell? w _ c0
  clear h hp hop ho
  go_enter Ybaf.func9, Ybaf.ntmps9
  go_wp2
  go_quiet (fail)
  have H1 : Hid (Ps (w.drewN nq) P T (some ⟨T, 0, none⟩) cap ts pos ∧ Kp (fun k => k ≠ P) w (w.drewN nq)) := ⟨ps_drewN H.out nq, (Kp.refl _ _).drewN nq⟩
  have HO1 : Hid (Ops (w.drewN nq) ob ops) := HO.out
  have s0' : (w.drewN nq).cell? ⟨P, 0, none⟩ = some (.slice (some ⟨T, 0, none⟩) ts.length cap) := s0
  have s1' : (w.drewN nq).cell? ⟨P, 1, none⟩ = some (.int .i64 (pos : Int)) := s1
  have c0' : (w.drewN nq).cell? ⟨T, pos * 3, none⟩ = some (.bool top) := c0
  have c1' : (w.drewN nq).cell? ⟨T, pos * 3 + 1, none⟩ = some (.string tx) := c1
  have c2' : (w.drewN nq).cell? ⟨T, pos * 3 + 2, none⟩ = some (.bool tq) := c2
  have hPl' : P < (w.drewN nq).heap.size := hPl
  have hTl' : T < (w.drewN nq).heap.size := hTl
  generalize w.drewN nq = w1 at *
  clear s0 s1 c0 c1 c2 hPl hTl H HO
  go_wp2
  go_region
  have W2 : Hid (Kp (fun _ => True) w1 (w1.alloc (.cells #[.bool top, .string tx, .bool tq] 30)).drew) := ((Kp.refl _ _).alloc _).drew
  go_wp2
  go_loop [30] (fun i => ∃ k : Nat, k ≤ ops.length ∧ i = .int .i64 k) (fun i => ops.length - (intOf i).toNat)
  case atStart => exact ⟨0, Nat.zero_le _, rfl⟩
  case round =>
    obtain ⟨k, hk, rfl⟩ := hrel
    by_cases hlt : k < ops.length
    · have hc : (w1.alloc (.cells #[.bool top, .string tx, .bool tq] 30)).drew.cell? ⟨ob, k, none⟩ = some (.string (ops.getD k ⟨#[]⟩)) := cell_kp W2.out (HO1.out k hlt) trivial
      have hx : top = true → (tx.toList == (ops.getD k ⟨#[]⟩).toList) = false := fun ht => HX.out ht k hlt
      generalize ops.getD k ⟨#[]⟩ = y at hc hx
      cases top with
      | false =>
        clear hx
        go_wp2
        go_round
        case rel => exact ⟨k + 1, by omega, by go_num⟩
        case measure => simp [intOf]; omega
      | true =>
        have hx' := hx rfl
        clear hx
        go_wp2
        go_round
        case rel => exact ⟨k + 1, by omega, by go_num⟩
        case measure => simp [intOf]; omega
    · go_wp2
      go_ret
      exact ⟨rfl, ps_kp H1.out.1 W2.out, H1.out.2.trans (W2.out.mono (fun _ _ _ => trivial))⟩

set_option maxRecDepth 100000 in
set_option maxHeartbeats 1000000 in
/-- accept at an operator that is asked for, the j-th: its text, and pos moves on. -/
theorem accept_yes (P T : Nat) (cap : Nat) (ts : List Tok) (pos : Nat) (ob ocap : Nat) (ops : List ByteArray) (w : World) (h : Ps w P T (some ⟨T, 0, none⟩) cap ts pos) (hp : pos < ts.length) (hno : ops.length ≤ 100)
    (hto : (ts.getD pos noTok).op = true) (j : Nat) (hj : j < ops.length) (hjt : ops.getD j ⟨#[]⟩ = (ts.getD pos noTok).text)
    (hop : ∀ i, i < j → ((ts.getD pos noTok).text.toList == (ops.getD i ⟨#[]⟩).toList) = false) (ho : Ops w ob ops) :
    Calls Ybaf.prog 9 #[.pointer (some ⟨P, 0, none⟩), .slice (some ⟨ob, 0, none⟩) ops.length ocap] w fun e w' => e = .returned (.string (ts.getD pos noTok).text) ∧ Ps w' P T (some ⟨T, 0, none⟩) cap ts (pos + 1) ∧ Kp (fun k => k ≠ P) w w' := by
  have s0 : w.cell? ⟨P, 0, none⟩ = some (.slice (some ⟨T, 0, none⟩) ts.length cap) := by rw [cell_of_row w P 0 _ 36 (0, 0) h.st]; rfl
  have s1 : w.cell? ⟨P, 1, none⟩ = some (.int .i64 (pos : Int)) := by rw [cell_of_row w P 1 _ 36 (0, 0) h.st]; rfl
  have hnl : (pos : Int) < (ts.length : Int) := by omega
  obtain ⟨c0, c1, c2⟩ := h.cl pos hp
  rw [hto] at c0
  generalize (ts.getD pos noTok).text = tx at c1 hop hjt ⊢
  generalize (ts.getD pos noTok).q = tq at c2
  have H : Hid (Ps w P T (some ⟨T, 0, none⟩) cap ts pos) := h
  have HO : Hid (Ops w ob ops) := ho
  have HX : Hid (∀ i, i < j → (tx.toList == (ops.getD i ⟨#[]⟩).toList) = false) := hop
  have HJ : Hid (ops.getD j ⟨#[]⟩ = tx) := hjt
  have HPP : Hid (pos + 1 ≤ ts.length) := hp
  have hPl := lt_of_row h.st
  have hTl : T < w.heap.size := World.block_lt_of_cell? w _ c0
  clear h hp hop ho hjt hto
  go_enter Ybaf.func9, Ybaf.ntmps9
  go_wp2
  go_quiet (fail)
  have H1 : Hid (Ps (w.drewN nq) P T (some ⟨T, 0, none⟩) cap ts pos ∧ Kp (fun k => k ≠ P) w (w.drewN nq)) := ⟨ps_drewN H.out nq, (Kp.refl _ _).drewN nq⟩
  have HO1 : Hid (Ops (w.drewN nq) ob ops) := HO.out
  have s0' : (w.drewN nq).cell? ⟨P, 0, none⟩ = some (.slice (some ⟨T, 0, none⟩) ts.length cap) := s0
  have s1' : (w.drewN nq).cell? ⟨P, 1, none⟩ = some (.int .i64 (pos : Int)) := s1
  have c0' : (w.drewN nq).cell? ⟨T, pos * 3, none⟩ = some (.bool true) := c0
  have c1' : (w.drewN nq).cell? ⟨T, pos * 3 + 1, none⟩ = some (.string tx) := c1
  have c2' : (w.drewN nq).cell? ⟨T, pos * 3 + 2, none⟩ = some (.bool tq) := c2
  have hPl' : P < (w.drewN nq).heap.size := hPl
  have hTl' : T < (w.drewN nq).heap.size := hTl
  generalize w.drewN nq = w1 at *
  clear s0 s1 c0 c1 c2 hPl hTl H HO
  go_wp2
  go_region
  have W2 : Hid (Kp (fun _ => True) w1 (w1.alloc (.cells #[.bool true, .string tx, .bool tq] 30)).drew) := ((Kp.refl _ _).alloc _).drew
  go_wp2
  go_loop [30] (fun i => ∃ k : Nat, k ≤ j ∧ i = .int .i64 k) (fun i => j - (intOf i).toNat)
  case atStart => exact ⟨0, Nat.zero_le _, rfl⟩
  case round =>
    obtain ⟨k, hk, rfl⟩ := hrel
    have hlt : k < ops.length := by omega
    have hc : (w1.alloc (.cells #[.bool true, .string tx, .bool tq] 30)).drew.cell? ⟨ob, k, none⟩ = some (.string (ops.getD k ⟨#[]⟩)) := cell_kp W2.out (HO1.out k hlt) trivial
    by_cases hkj : k < j
    · have hx : (tx.toList == (ops.getD k ⟨#[]⟩).toList) = false := HX.out k hkj
      generalize ops.getD k ⟨#[]⟩ = y at hc hx
      go_wp2
      go_round
      case rel => exact ⟨k + 1, by omega, by go_num⟩
      case measure => simp [intOf]; omega
    · have hkj' : k = j := by omega
      subst hkj'
      rw [HJ.out] at hc
      have hx : (tx.toList == tx.toList) = true := by simp
      have fP := frozen_of_row w1 P 1 _ 36 H1.out.1.st
      have hpl : (pos : Int) ≤ 100000 := by have := H1.out.1.ln; have := H1.out.1.ps; omega
      go_wp2
      go_ret
      have k2 := ps_pos H1.out.1 (pos + 1) HPP.out
      have ee : ((pos + 1 : Nat) : Int) = (pos : Int) + 1 := by omega
      rw [ee] at k2
      have k3 : Kp (fun k => k ≠ P) w1 (w1.setCell ⟨P, 1, none⟩ (.int .i64 ((pos : Int) + 1))) := (Kp.refl _ _).setCell (by simp) _
      exact ⟨rfl, ps_kp k2 (((Kp.refl _ _).alloc _).drew), (H1.out.2.trans k3).trans (((Kp.refl _ _).alloc _).drew)⟩
end Go.Proofs.YbulkawlyFmt.Ac
