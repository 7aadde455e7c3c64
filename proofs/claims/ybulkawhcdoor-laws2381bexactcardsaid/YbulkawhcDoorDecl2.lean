import Derived.Test.YbulkawhcDoorDecl
import Derived.Laws.EntriesVeiled
namespace Go.Proofs.YbulkawhcDoor.De
open Go.ChangeShapes Go.WideShapes Go.ChangeAt Go.RowKit Go.Maps Go.Proofs.YbulkawhcDoor.Lw Go.Proofs.YbulkawhcDoor Go.Proofs.YbulkawhcDoor.Pl Go.Proofs.YbulkawhcDoor.Se

theorem box4 (w : World) (a b c d : Value) (ta tb tc td : TypeId) :
    ((((w.alloc (.cells #[a] ta)).alloc (.cells #[b] tb)).alloc (.cells #[c] tc)).alloc (.cells #[d] td)).cell? ⟨w.heap.size, 0, none⟩ = some a ∧
    ((((w.alloc (.cells #[a] ta)).alloc (.cells #[b] tb)).alloc (.cells #[c] tc)).alloc (.cells #[d] td)).cell? ⟨w.heap.size + 1, 0, none⟩ = some b ∧
    ((((w.alloc (.cells #[a] ta)).alloc (.cells #[b] tb)).alloc (.cells #[c] tc)).alloc (.cells #[d] td)).cell? ⟨w.heap.size + 2, 0, none⟩ = some c ∧
    ((((w.alloc (.cells #[a] ta)).alloc (.cells #[b] tb)).alloc (.cells #[c] tc)).alloc (.cells #[d] td)).cell? ⟨w.heap.size + 3, 0, none⟩ = some d ∧
    ((((w.alloc (.cells #[a] ta)).alloc (.cells #[b] tb)).alloc (.cells #[c] tc)).alloc (.cells #[d] td)).heap.size = w.heap.size + 4 := by
  have one : ∀ (w : World) (v : Value) (t : TypeId), (w.alloc (.cells #[v] t)).cell? ⟨w.heap.size, 0, none⟩ = some v := fun w v t => by
    rw [cell_of_row _ _ 0 _ t (0, 0) (heap_alloc_new w _)]; rfl
  have kp : ∀ (w : World) (o : Obj), Kp (fun _ => True) w (w.alloc o) := fun w o => (Kp.refl _ _).alloc o
  have s1 : ∀ (w : World) (o : Obj), (w.alloc o).heap.size = w.heap.size + 1 := fun w o => by simp
  refine ⟨cell_kp (kp _ _) (cell_kp (kp _ _) (cell_kp (kp _ _) (one w a ta) trivial) trivial) trivial, ?_, ?_, ?_, ?_⟩
  · have := one (w.alloc (.cells #[a] ta)) b tb
    rw [s1] at this
    exact cell_kp (kp _ _) (cell_kp (kp _ _) this trivial) trivial
  · have := one ((w.alloc (.cells #[a] ta)).alloc (.cells #[b] tb)) c tc
    rw [s1, s1] at this
    exact cell_kp (kp _ _) this trivial
  · have := one (((w.alloc (.cells #[a] ta)).alloc (.cells #[b] tb)).alloc (.cells #[c] tc)) d td
    rw [s1, s1, s1] at this
    exact this
  · rw [s1, s1, s1, s1]

theorem twin4 (w : World) (a0 a1 a2 a3 b0 b1 b2 b3 : Value) (t : TypeId) :
    ((w.alloc (.cells #[a0, a1, a2, a3] t)).alloc (.cells #[b0, b1, b2, b3] t)).drew.cell? ⟨w.heap.size, 2, none⟩ = some a2 ∧
    ((w.alloc (.cells #[a0, a1, a2, a3] t)).alloc (.cells #[b0, b1, b2, b3] t)).drew.cell? ⟨w.heap.size, 3, none⟩ = some a3 ∧
    ((w.alloc (.cells #[a0, a1, a2, a3] t)).alloc (.cells #[b0, b1, b2, b3] t)).drew.cell? ⟨w.heap.size + 1, 2, none⟩ = some b2 ∧
    ((w.alloc (.cells #[a0, a1, a2, a3] t)).alloc (.cells #[b0, b1, b2, b3] t)).drew.cell? ⟨w.heap.size + 1, 3, none⟩ = some b3 := by
  have kp : ∀ (w : World) (o : Obj), Kp (fun _ => True) w (w.alloc o).drew := fun w o => ((Kp.refl _ _).alloc o).drew
  have h1 := (kp (w.alloc (.cells #[a0, a1, a2, a3] t)) (.cells #[b0, b1, b2, b3] t)).row (heap_alloc_new w (.cells #[a0, a1, a2, a3] t)) trivial
  have h2 : ((w.alloc (.cells #[a0, a1, a2, a3] t)).alloc (.cells #[b0, b1, b2, b3] t)).drew.heap[w.heap.size + 1]? = some (.cells #[b0, b1, b2, b3] t (0, 0)) := by
    have := heap_alloc_new (w.alloc (.cells #[a0, a1, a2, a3] t)) (.cells #[b0, b1, b2, b3] t)
    rw [show (w.alloc (.cells #[a0, a1, a2, a3] t)).heap.size = w.heap.size + 1 by simp] at this
    exact this
  exact ⟨by rw [cell_of_row _ _ 2 _ t (0, 0) h1]; rfl, by rw [cell_of_row _ _ 3 _ t (0, 0) h1]; rfl, by rw [cell_of_row _ _ 2 _ t (0, 0) h2]; rfl, by rw [cell_of_row _ _ 3 _ t (0, 0) h2]; rfl⟩
theorem keep8 {w w' : World} (hk : Kp (fun _ => True) w w') {p1 p2 p3 p4 p5 p6 p7 p8 : Addr} {x1 x2 x3 x4 x5 x6 x7 x8 : Value}
    (h : w.cell? p1 = some x1 ∧ w.cell? p2 = some x2 ∧ w.cell? p3 = some x3 ∧ w.cell? p4 = some x4 ∧ w.cell? p5 = some x5 ∧ w.cell? p6 = some x6 ∧ w.cell? p7 = some x7 ∧ w.cell? p8 = some x8) :
    w'.cell? p1 = some x1 ∧ w'.cell? p2 = some x2 ∧ w'.cell? p3 = some x3 ∧ w'.cell? p4 = some x4 ∧ w'.cell? p5 = some x5 ∧ w'.cell? p6 = some x6 ∧ w'.cell? p7 = some x7 ∧ w'.cell? p8 = some x8 :=
  ⟨cell_kp hk h.1 trivial, cell_kp hk h.2.1 trivial, cell_kp hk h.2.2.1 trivial, cell_kp hk h.2.2.2.1 trivial, cell_kp hk h.2.2.2.2.1 trivial, cell_kp hk h.2.2.2.2.2.1 trivial, cell_kp hk h.2.2.2.2.2.2.1 trivial, cell_kp hk h.2.2.2.2.2.2.2 trivial⟩

theorem keep6 {w w' : World} (hk : Kp (fun _ => True) w w') {p1 p2 p3 p4 p5 p6 : Addr} {x1 x2 x3 x4 x5 x6 : Value}
    (h : w.cell? p1 = some x1 ∧ w.cell? p2 = some x2 ∧ w.cell? p3 = some x3 ∧ w.cell? p4 = some x4 ∧ w.cell? p5 = some x5 ∧ w.cell? p6 = some x6) :
    w'.cell? p1 = some x1 ∧ w'.cell? p2 = some x2 ∧ w'.cell? p3 = some x3 ∧ w'.cell? p4 = some x4 ∧ w'.cell? p5 = some x5 ∧ w'.cell? p6 = some x6 :=
  ⟨cell_kp hk h.1 trivial, cell_kp hk h.2.1 trivial, cell_kp hk h.2.2.1 trivial, cell_kp hk h.2.2.2.1 trivial, cell_kp hk h.2.2.2.2.1 trivial, cell_kp hk h.2.2.2.2.2 trivial⟩
theorem keep6s {w : World} {B0 : Nat} {q : Addr} {u : Value} (hq : B0 ≤ q.block) {p1 p2 p3 p4 p5 p6 : Addr} {x1 x2 x3 x4 x5 x6 : Value}
    (hb : p1.block < B0 ∧ p2.block < B0 ∧ p3.block < B0 ∧ p4.block < B0 ∧ p5.block < B0 ∧ p6.block < B0)
    (h : w.cell? p1 = some x1 ∧ w.cell? p2 = some x2 ∧ w.cell? p3 = some x3 ∧ w.cell? p4 = some x4 ∧ w.cell? p5 = some x5 ∧ w.cell? p6 = some x6) :
    (w.setCell q u).cell? p1 = some x1 ∧ (w.setCell q u).cell? p2 = some x2 ∧ (w.setCell q u).cell? p3 = some x3 ∧ (w.setCell q u).cell? p4 = some x4 ∧ (w.setCell q u).cell? p5 = some x5 ∧ (w.setCell q u).cell? p6 = some x6 := by
  have hk : Kp (fun k => k < B0) w (w.setCell q u) := (Kp.refl _ _).setCell (.inl (by omega)) _
  exact ⟨cell_kp hk h.1 hb.1, cell_kp hk h.2.1 hb.2.1, cell_kp hk h.2.2.1 hb.2.2.1, cell_kp hk h.2.2.2.1 hb.2.2.2.1, cell_kp hk h.2.2.2.2.1 hb.2.2.2.2.1, cell_kp hk h.2.2.2.2.2 hb.2.2.2.2.2⟩

theorem twin1 (w : World) (v : Value) (t : TypeId) :
    ((w.alloc (.cells #[v] t)).alloc (.cells #[v] t)).drew.cell? ⟨w.heap.size, 0, none⟩ = some v ∧ ((w.alloc (.cells #[v] t)).alloc (.cells #[v] t)).drew.cell? ⟨w.heap.size + 1, 0, none⟩ = some v := by
  have h1 : ((w.alloc (.cells #[v] t)).alloc (.cells #[v] t)).drew.heap[w.heap.size]? = some (.cells #[v] t (0, 0)) := (((Kp.refl (fun _ => True) _).alloc _).drew).row (heap_alloc_new w (.cells #[v] t)) trivial
  have h2 : ((w.alloc (.cells #[v] t)).alloc (.cells #[v] t)).drew.heap[w.heap.size + 1]? = some (.cells #[v] t (0, 0)) := by
    have := heap_alloc_new (w.alloc (.cells #[v] t)) (.cells #[v] t)
    rw [show (w.alloc (.cells #[v] t)).heap.size = w.heap.size + 1 by simp] at this
    exact this
  exact ⟨by rw [cell_of_row _ _ 0 _ t (0, 0) h1]; rfl, by rw [cell_of_row _ _ 0 _ t (0, 0) h2]; rfl⟩

/-- What sameDeclaration answers. -/
def declB (ms ms' : List Mem) (i j : Nat) : Bool := decide (i < 3) == decide (j < 3) && sameS (cls ms i) (cls ms' j)

set_option maxRecDepth 100000 in
set_option maxHeartbeats 8000000 in
theorem decl (w : World) (Pb off E ecap n L i : Nat) (ms : List Mem) (h : NS w Pb off E ecap n L ms) (hi : i < n) (Pb' off' E' ecap' n' L' j : Nat) (ms' : List Mem) (h' : NS w Pb' off' E' ecap' n' L' ms') (hj : j < n') :
    Calls Ybad.prog 10 #[.pointer (some ⟨Pb, off, none⟩), .int .i64 (i : Int), .pointer (some ⟨Pb', off', none⟩), .int .i64 (j : Int)] w fun e w' => e = .returned (.bool (declB ms ms' i j)) ∧ Kp (fun _ => True) w w' := by
  have H : Hid (NS w Pb off E ecap n L ms) := h
  have H' : Hid (NS w Pb' off' E' ecap' n' L' ms') := h'
  clear h h'
  have hmf : ∀ (fn : Fn) (first cap : Array Value) (w : World), (Instr.makeFunc fn first cap).run Ybad.prog w = .ok (.func fn first cap) w := fun _ _ _ _ => rfl
  go_enter Ybad.func10, Ybad.ntmps10
  go_upto_region 1 with fail
  generalize hw1 : (((w.alloc (.cells #[.pointer (some ⟨Pb, off, none⟩)] 95)).alloc (.cells #[.int .i64 (i : Int)] 3)).alloc (.cells #[.pointer (some ⟨Pb', off', none⟩)] 95)).alloc (.cells #[.int .i64 (j : Int)] 3) = w1
  have K1 : Hid (Kp (fun _ => True) w w1) := by rw [Hid, ← hw1]; exact ((((Kp.refl _ _).alloc _).alloc _).alloc _).alloc _
  obtain ⟨q0, q1, q2, q3, qs⟩ := box4 w (.pointer (some ⟨Pb, off, none⟩)) (.int .i64 (i : Int)) (.pointer (some ⟨Pb', off', none⟩)) (.int .i64 (j : Int)) 95 3 95 3
  rw [hw1] at q0 q1 q2 q3 qs
  clear hw1
  have q2' : w1.cell? ⟨w.heap.size + 1 + 1, 0, none⟩ = some (.pointer (some ⟨Pb', off', none⟩)) := q2
  have q3' : w1.cell? ⟨w.heap.size + 1 + 1 + 1, 0, none⟩ = some (.int .i64 (j : Int)) := q3
  clear q2 q3
  have HQS : Hid (w1.heap.size = w.heap.size + 4) := qs
  clear qs
  have N1 : Hid (NS w1 Pb off E ecap n L ms) := ns_kp H.out K1.out
  have N1' : Hid (NS w1 Pb' off' E' ecap' n' L' ms') := ns_kp H'.out K1.out
  clear H H'
  generalize w.heap.size + 1 + 1 + 1 = A3 at *
  generalize w.heap.size + 1 + 1 = A2 at *
  generalize w.heap.size + 1 = A1 at *
  generalize w.heap.size = A0 at *
  have ce := N1.out.ev
  have ce' := N1'.out.ev
  obtain ⟨e0, e1, e2, e3⟩ := N1.out.ent i hi
  obtain ⟨f0, f1, f2, f3⟩ := N1'.out.ent j hj
  have hi' : (i : Int) < (n : Int) := by omega
  have hj' : (j : Int) < (n' : Int) := by omega
  have i0 : (0 : Int) ≤ (i : Int) := by omega
  have j0 : (0 : Int) ≤ (j : Int) := by omega
  have b0 := World.block_lt_of_cell? w1 _ q0
  have b1 := World.block_lt_of_cell? w1 _ q1
  have b2 := World.block_lt_of_cell? w1 _ q2'
  have b3 := World.block_lt_of_cell? w1 _ q3'
  have b4 := World.block_lt_of_cell? w1 _ ce
  have b5 := World.block_lt_of_cell? w1 _ ce'
  have b6 := World.block_lt_of_cell? w1 _ e0
  have b7 := World.block_lt_of_cell? w1 _ f0
  generalize en ms i = si at *
  generalize en ms' j = sj at *
  go_cut [9, 10] (fun p q wx => ∃ B C, p = .pointer (some ⟨B, 0, none⟩) ∧ q = .pointer (some ⟨C, 0, none⟩) ∧ Kp (fun _ => True) w1 wx ∧ wx.cell? ⟨B, 2, none⟩ = some (.bool (decide (i < 3))) ∧ wx.cell? ⟨B, 3, none⟩ = some (.slice none 0 0) ∧ wx.cell? ⟨C, 2, none⟩ = some (.bool (decide (j < 3))) ∧ wx.cell? ⟨C, 3, none⟩ = some (.slice none 0 0))
  case first =>
    generalize decide (i < 3) = ci at *
    generalize decide (j < 3) = cj at *
    go_region_held (fun w' => w'.cell? ⟨A0, 0, none⟩ = some (.pointer (some ⟨Pb, off, none⟩)) ∧ w'.cell? ⟨A1, 0, none⟩ = some (.int .i64 (i : Int)) ∧ w'.cell? ⟨A2, 0, none⟩ = some (.pointer (some ⟨Pb', off', none⟩)) ∧ w'.cell? ⟨A3, 0, none⟩ = some (.int .i64 (j : Int)) ∧ w'.cell? ⟨Pb, off + 1, none⟩ = some (.slice (some ⟨E, 0, none⟩) n ecap) ∧ w'.cell? ⟨Pb', off' + 1, none⟩ = some (.slice (some ⟨E', 0, none⟩) n' ecap') ∧ w'.cell? ⟨E, i * 4, none⟩ = some (.string si) ∧ w'.cell? ⟨E, i * 4 + 1, none⟩ = some (.int .i64 0) ∧ w'.cell? ⟨E, i * 4 + 2, none⟩ = some (.bool ci) ∧ w'.cell? ⟨E, i * 4 + 3, none⟩ = some (.slice none 0 0) ∧ w'.cell? ⟨E', j * 4, none⟩ = some (.string sj) ∧ w'.cell? ⟨E', j * 4 + 1, none⟩ = some (.int .i64 0) ∧ w'.cell? ⟨E', j * 4 + 2, none⟩ = some (.bool cj) ∧ w'.cell? ⟨E', j * 4 + 3, none⟩ = some (.slice none 0 0)) (go_keep) (fail)
    all_goals
      go_wp2_with fail
      go_meet
      case rel =>
        first
          | exact ⟨_, _, rfl, rfl, (((Kp.refl _ _).alloc _).alloc _).drew, (twin4 _ _ _ _ _ _ _ _ _ _).1, (twin4 _ _ _ _ _ _ _ _ _ _).2.1, (twin4 _ _ _ _ _ _ _ _ _ _).2.2.1, (twin4 _ _ _ _ _ _ _ _ _ _).2.2.2⟩
          | exact ⟨_, _, rfl, rfl, (((Kp.refl _ _).alloc _).alloc _).drew, (twin4 _ _ _ _ _ _ _ _ _ _).2.2.1, (twin4 _ _ _ _ _ _ _ _ _ _).2.2.2, (twin4 _ _ _ _ _ _ _ _ _ _).1, (twin4 _ _ _ _ _ _ _ _ _ _).2.1⟩
  case rest =>
    obtain ⟨B, C, rfl, rfl, hk2, c2, c3, d2, d3⟩ := hcut
    have K2 : Hid (Kp (fun _ => True) w wc) := K1.out.trans hk2
    have M2 : Hid (NS wc Pb off E ecap n L ms) := ns_kp N1.out hk2
    have M2' : Hid (NS wc Pb' off' E' ecap' n' L' ms') := ns_kp N1'.out hk2
    have p0 := cell_kp hk2 q0 trivial
    have p1 := cell_kp hk2 q1 trivial
    have p2 := cell_kp hk2 q2' trivial
    have p3 := cell_kp hk2 q3' trivial
    clear hk2 K1 N1 N1' q0 q1 q2' q3' ce ce' e0 e1 e2 e3 f0 f1 f2 f3 b0 b1 b2 b3 b4 b5 b6 b7 HQS
    have bB := World.block_lt_of_cell? wc _ c2
    have bC := World.block_lt_of_cell? wc _ d2
    cases hcc : (decide (i < 3) == decide (j < 3))
    · have hne : (decide (i < 3) != decide (j < 3)) = true := by rw [bne, hcc]; rfl
      have HR : Hid (declB ms ms' i j = false) := by rw [Hid, declB, hcc]; rfl
      clear hcc
      generalize decide (i < 3) = ci at *
      generalize decide (j < 3) = cj at *
      cases ci <;> cases cj
      case false.false => simp at hne
      case true.true => simp at hne
      all_goals
        clear hne
        go_wp2_with fail
        go_ret
        exact ⟨by rw [HR.out]; rfl, K2.out⟩
    · have hne : (decide (i < 3) != decide (j < 3)) = false := by rw [bne, hcc]; rfl
      have HR : Hid (declB ms ms' i j = sameS (cls ms i) (cls ms' j)) := by rw [Hid, declB, hcc]; rfl
      clear hcc
      generalize decide (i < 3) = ci at *
      generalize decide (j < 3) = cj at *
      obtain rfl : ci = cj := by simpa [bne] using hne
      have hne2 : (ci != ci) = false := by simp
      have hne3 : (ci == ci) = true := by simp
      go_upto_region 4 with fail
      obtain ⟨la, lc, HSD⟩ := side_of M2.out p0 p1 hi
      obtain ⟨la', lc', HSD'⟩ := side_of M2'.out p2 p3 hj
      have cL := M2.out.lv
      have cL' := M2'.out.lv
      have cl := HSD.li
      have cl' := HSD'.li
      have SD : Hid (Side wc A0 A1 (cls ms i) Pb off E ecap n L i la lc) := HSD
      have SD' : Hid (Side wc A2 A3 (cls ms' j) Pb' off' E' ecap' n' L' j la' lc') := HSD'
      clear HSD HSD'
      have bb0 := World.block_lt_of_cell? wc _ p0
      have bb1 := World.block_lt_of_cell? wc _ p1
      have bb2 := World.block_lt_of_cell? wc _ p2
      have bb3 := World.block_lt_of_cell? wc _ p3
      have bb4 := World.block_lt_of_cell? wc _ cL
      have bb5 := World.block_lt_of_cell? wc _ cL'
      have bb6 := World.block_lt_of_cell? wc _ cl
      have bb7 := World.block_lt_of_cell? wc _ cl'
      have cS := fun wz (hz : Kp (fun _ => True) wc wz) => sameSet wz A0 A1 (cls ms i) Pb off E ecap n L i la lc (side_kp SD.out hz) A2 A3 (cls ms' j) Pb' off' E' ecap' n' L' j la' lc' (side_kp SD'.out hz)
      generalize sameS (cls ms i) (cls ms' j) = R at *
      generalize (cls ms i).length = li at *
      generalize (cls ms' j).length = lj at *
      obtain ⟨wb, rfl⟩ : ∃ wb, wb = wc := ⟨wc, rfl⟩
      go_cut [67] (fun v wx => v = .bool (!R) ∧ Kp (fun _ => True) wb wx)
      case first =>
        go_region_held (fun w' => w'.cell? ⟨A0, 0, none⟩ = some (.pointer (some ⟨Pb, off, none⟩)) ∧ w'.cell? ⟨A1, 0, none⟩ = some (.int .i64 (i : Int)) ∧ w'.cell? ⟨A2, 0, none⟩ = some (.pointer (some ⟨Pb', off', none⟩)) ∧ w'.cell? ⟨A3, 0, none⟩ = some (.int .i64 (j : Int)) ∧ w'.cell? ⟨Pb, off + 3, none⟩ = some (.slice (some ⟨L, 0, none⟩) n n) ∧ w'.cell? ⟨Pb', off' + 3, none⟩ = some (.slice (some ⟨L', 0, none⟩) n' n') ∧ w'.cell? ⟨L, i, none⟩ = some (.slice la li lc) ∧ w'.cell? ⟨L', j, none⟩ = some (.slice la' lj lc')) (first | go_keep | exact keep8 hkA (by first | assumption | go_keep)) (first | (go_at_call 12; refine (cS _ ((Kp.refl _ _).drew)).mono ?_; rintro e w' ⟨rfl, hkA⟩))
        all_goals
          go_wp2_with fail
          go_meet
          case rel => exact ⟨rfl, (Kp.refl _ _).drew.trans hkA⟩
      case rest =>
        obtain ⟨rfl, hk3⟩ := hcut
        have K3 : Hid (Kp (fun _ => True) w wc) := K2.out.trans hk3
        have M3 : Hid (NS wc Pb off E ecap n L ms) := ns_kp M2.out hk3
        have M3' : Hid (NS wc Pb' off' E' ecap' n' L' ms') := ns_kp M2'.out hk3
        have r0 := cell_kp hk3 p0 trivial
        have r1 := cell_kp hk3 p1 trivial
        have r2 := cell_kp hk3 p2 trivial
        have r3 := cell_kp hk3 p3 trivial
        clear hk3 K2 M2 M2' p0 p1 p2 p3 cL cL' cl cl' SD SD' cS bb0 bb1 bb2 bb3 bb4 bb5 bb6 bb7 c2 c3 d2 d3 bB bC
        cases R
        · go_wp2_with fail
          go_ret
          exact ⟨by rw [HR.out]; rfl, K3.out⟩
        · have s6 := M3.out.sv
          have s6' := M3'.out.sv
          have bb0 := World.block_lt_of_cell? wc _ r0
          have bb1 := World.block_lt_of_cell? wc _ r1
          have bb2 := World.block_lt_of_cell? wc _ r2
          have bb3 := World.block_lt_of_cell? wc _ r3
          have bb4 := World.block_lt_of_cell? wc _ s6
          have bb5 := World.block_lt_of_cell? wc _ s6'
          obtain ⟨wd, rfl⟩ : ∃ wd, wd = wc := ⟨wc, rfl⟩
          go_upto_region 7 with fail
          go_cut [12, 13] (fun p q wx => ∃ B C, p = .pointer (some ⟨B, 0, none⟩) ∧ q = .pointer (some ⟨C, 0, none⟩) ∧ Kp (fun _ => True) wd wx ∧ wx.cell? ⟨B, 0, none⟩ = some (.slice none 0 0) ∧ wx.cell? ⟨C, 0, none⟩ = some (.slice none 0 0))
          case first =>
            have HB : Hid (A0 < wd.heap.size ∧ A1 < wd.heap.size ∧ A2 < wd.heap.size ∧ A3 < wd.heap.size ∧ Pb < wd.heap.size ∧ Pb' < wd.heap.size) := ⟨bb0, bb1, bb2, bb3, bb4, bb5⟩
            have HS0 : Hid (wd.cell? ⟨A0, 0, none⟩ = some (.pointer (some ⟨Pb, off, none⟩)) ∧ wd.cell? ⟨A1, 0, none⟩ = some (.int .i64 (i : Int)) ∧ wd.cell? ⟨A2, 0, none⟩ = some (.pointer (some ⟨Pb', off', none⟩)) ∧ wd.cell? ⟨A3, 0, none⟩ = some (.int .i64 (j : Int)) ∧ wd.cell? ⟨Pb, off + 6, none⟩ = some (.slice none 0 0) ∧ wd.cell? ⟨Pb', off' + 6, none⟩ = some (.slice none 0 0)) := ⟨r0, r1, r2, r3, s6, s6'⟩
            have S6 : Hid (wd.cell? ⟨Pb, off + 6, none⟩ = some (.slice none 0 0)) := s6
            have S6' : Hid (wd.cell? ⟨Pb', off' + 6, none⟩ = some (.slice none 0 0)) := s6'
            clear K3 M3 M3' HR hne hne2 hne3 hi' hj' i0 j0 hmf r0 r1 r2 r3 s6 s6' bb0 bb1 bb2 bb3 bb4 bb5
            go_region_held (fun w' => w'.cell? ⟨A0, 0, none⟩ = some (.pointer (some ⟨Pb, off, none⟩)) ∧ w'.cell? ⟨A1, 0, none⟩ = some (.int .i64 (i : Int)) ∧ w'.cell? ⟨A2, 0, none⟩ = some (.pointer (some ⟨Pb', off', none⟩)) ∧ w'.cell? ⟨A3, 0, none⟩ = some (.int .i64 (j : Int)) ∧ w'.cell? ⟨Pb, off + 6, none⟩ = some (.slice none 0 0) ∧ w'.cell? ⟨Pb', off' + 6, none⟩ = some (.slice none 0 0)) (first | assumption | exact HS0.out | exact keep6 (Kp.refl _ _).drew HS0.out | exact keep6 ((Kp.refl _ _).alloc _) (by assumption) | exact keep6s (B0 := wd.heap.size) (by simp) HB.out (by assumption)) (first | (go_at_call 15; refine (inst _ _ _ _ (by first | exact cell_kp (p := fun _ => True) (by repeat (first | exact Kp.refl _ _ | apply Kp.drew | apply Kp.alloc | (refine Kp.setCell ?_ (.inr (by simp)) _))) S6.out trivial | exact cell_kp (p := fun _ => True) (by repeat (first | exact Kp.refl _ _ | apply Kp.drew | apply Kp.alloc | (refine Kp.setCell ?_ (.inr (by simp)) _))) S6'.out trivial)).mono ?_; rintro e w' ⟨rfl, rfl⟩))
            all_goals
              go_wp2_with fail
              go_meet
              case rel =>
                first
                  | exact ⟨_, _, rfl, rfl, (((Kp.refl _ _).alloc _).alloc _).drew, (twin1 _ _ _).1, (twin1 _ _ _).2⟩
                  | exact ⟨_, _, rfl, rfl, (((Kp.refl _ _).alloc _).alloc _).drew, (twin1 _ _ _).2, (twin1 _ _ _).1⟩
          case rest =>
            obtain ⟨B2, C2, rfl, rfl, hk4, x0, y0⟩ := hcut
            have K4 : Hid (Kp (fun _ => True) w wc) := K3.out.trans hk4
            have t0 := cell_kp hk4 r0 trivial
            have t1 := cell_kp hk4 r1 trivial
            have t2 := cell_kp hk4 r2 trivial
            have t3 := cell_kp hk4 r3 trivial
            have v5 := cell_kp hk4 M3.out.rv trivial
            have v5' := cell_kp hk4 M3'.out.rv trivial
            have HT : Hid (wc.cell? ⟨A0, 0, none⟩ = some (.pointer (some ⟨Pb, off, none⟩)) ∧ wc.cell? ⟨A1, 0, none⟩ = some (.int .i64 (i : Int)) ∧ wc.cell? ⟨A2, 0, none⟩ = some (.pointer (some ⟨Pb', off', none⟩)) ∧ wc.cell? ⟨A3, 0, none⟩ = some (.int .i64 (j : Int)) ∧ wc.cell? ⟨Pb, off + 5, none⟩ = some (.slice none 0 0) ∧ wc.cell? ⟨Pb', off' + 5, none⟩ = some (.slice none 0 0)) := ⟨t0, t1, t2, t3, v5, v5'⟩
            have bx := World.block_lt_of_cell? wc _ x0
            have by' := World.block_lt_of_cell? wc _ y0
            clear hk4 K3 M3 M3' r0 r1 r2 r3 s6 s6' bb0 bb1 bb2 bb3 bb4 bb5 t0 t1 t2 t3 v5 v5'
            go_upto_region 12 with (go_at_call 12; refine (sameSet0 _ _ _).mono ?_; rintro e w8 ⟨rfl, hkA⟩)
            have hkB : Kp (fun _ => True) wc (w8.alloc (.cells #[.func (.func 20) #[] #[]] 121)) := hkA.alloc _
            have K5 : Hid (Kp (fun _ => True) w (w8.alloc (.cells #[.func (.func 20) #[] #[]] 121))) := K4.out.trans hkB
            obtain ⟨r0, r1, r2, r3, s5, s5'⟩ := keep6 hkB HT.out
            clear hkA hkB HT K4 x0 y0 bx by'
            generalize w8.alloc (.cells #[.func (.func 20) #[] #[]] 121) = we at *
            have bb0 := World.block_lt_of_cell? we _ r0
            have bb1 := World.block_lt_of_cell? we _ r1
            have bb2 := World.block_lt_of_cell? we _ r2
            have bb3 := World.block_lt_of_cell? we _ r3
            have bb4 := World.block_lt_of_cell? we _ s5
            have bb5 := World.block_lt_of_cell? we _ s5'
            go_cut [16, 17] (fun p q wx => ∃ B C, p = .pointer (some ⟨B, 0, none⟩) ∧ q = .pointer (some ⟨C, 0, none⟩) ∧ Kp (fun _ => True) we wx ∧ wx.cell? ⟨B, 0, none⟩ = some (.slice none 0 0) ∧ wx.cell? ⟨C, 0, none⟩ = some (.slice none 0 0))
            case first =>
              have HB : Hid (A0 < we.heap.size ∧ A1 < we.heap.size ∧ A2 < we.heap.size ∧ A3 < we.heap.size ∧ Pb < we.heap.size ∧ Pb' < we.heap.size) := ⟨bb0, bb1, bb2, bb3, bb4, bb5⟩
              have HS0 : Hid (we.cell? ⟨A0, 0, none⟩ = some (.pointer (some ⟨Pb, off, none⟩)) ∧ we.cell? ⟨A1, 0, none⟩ = some (.int .i64 (i : Int)) ∧ we.cell? ⟨A2, 0, none⟩ = some (.pointer (some ⟨Pb', off', none⟩)) ∧ we.cell? ⟨A3, 0, none⟩ = some (.int .i64 (j : Int)) ∧ we.cell? ⟨Pb, off + 5, none⟩ = some (.slice none 0 0) ∧ we.cell? ⟨Pb', off' + 5, none⟩ = some (.slice none 0 0)) := ⟨r0, r1, r2, r3, s5, s5'⟩
              have S6 : Hid (we.cell? ⟨Pb, off + 5, none⟩ = some (.slice none 0 0)) := s5
              have S6' : Hid (we.cell? ⟨Pb', off' + 5, none⟩ = some (.slice none 0 0)) := s5'
              clear K5 HR hne hne2 hne3 hi' hj' i0 j0 hmf r0 r1 r2 r3 s5 s5' bb0 bb1 bb2 bb3 bb4 bb5
              go_region_held (fun w' => w'.cell? ⟨A0, 0, none⟩ = some (.pointer (some ⟨Pb, off, none⟩)) ∧ w'.cell? ⟨A1, 0, none⟩ = some (.int .i64 (i : Int)) ∧ w'.cell? ⟨A2, 0, none⟩ = some (.pointer (some ⟨Pb', off', none⟩)) ∧ w'.cell? ⟨A3, 0, none⟩ = some (.int .i64 (j : Int)) ∧ w'.cell? ⟨Pb, off + 5, none⟩ = some (.slice none 0 0) ∧ w'.cell? ⟨Pb', off' + 5, none⟩ = some (.slice none 0 0)) (first | assumption | exact HS0.out | exact keep6 (Kp.refl _ _).drew HS0.out | exact keep6 ((Kp.refl _ _).alloc _) (by assumption) | exact keep6s (B0 := we.heap.size) (by simp) HB.out (by assumption)) (first | (go_at_call 19; refine (rules _ _ _ _ (by first | exact cell_kp (p := fun _ => True) (by repeat (first | exact Kp.refl _ _ | apply Kp.drew | apply Kp.alloc | (refine Kp.setCell ?_ (.inr (by simp)) _))) S6.out trivial | exact cell_kp (p := fun _ => True) (by repeat (first | exact Kp.refl _ _ | apply Kp.drew | apply Kp.alloc | (refine Kp.setCell ?_ (.inr (by simp)) _))) S6'.out trivial)).mono ?_; rintro e w' ⟨rfl, rfl⟩))
              all_goals
                go_wp2_with fail
                go_meet
                case rel =>
                  first
                    | exact ⟨_, _, rfl, rfl, (((Kp.refl _ _).alloc _).alloc _).drew, (twin1 _ _ _).1, (twin1 _ _ _).2⟩
                    | exact ⟨_, _, rfl, rfl, (((Kp.refl _ _).alloc _).alloc _).drew, (twin1 _ _ _).2, (twin1 _ _ _).1⟩
            case rest =>
              obtain ⟨B3, C3, rfl, rfl, hk6, x0, y0⟩ := hcut
              have K6 : Hid (Kp (fun _ => True) w wc) := K5.out.trans hk6
              have bx := World.block_lt_of_cell? wc _ x0
              have by' := World.block_lt_of_cell? wc _ y0
              clear hk6 K5 r0 r1 r2 r3 s5 s5' bb0 bb1 bb2 bb3 bb4 bb5
              go_wp2_with (go_at_call 12; refine (sameSet0 _ _ _).mono ?_; rintro e w8 ⟨rfl, hkA⟩)
              go_ret
              exact ⟨by rw [HR.out]; rfl, K6.out.trans hkA⟩
end Go.Proofs.YbulkawhcDoor.De
