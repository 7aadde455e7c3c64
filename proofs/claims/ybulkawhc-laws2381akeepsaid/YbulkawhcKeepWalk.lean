import Derived.Test.YbulkawhcKeep
import Derived.WalkSpells
namespace Go.Proofs.Ybulkawhc.Kee
open Go.ChangeShapes Go.WideShapes Go.ChangeAt Go.RowKit Go.Proofs.Ybulkawhc.Lw

theorem Yba.info23 : (Yba.prog.info? 23).map (fun i => (i.zero, i.size, i.bytes)) = some (some (.int .u32 0), 1, 4) := by kernel_rfl
theorem Yba.size23 : (Yba.prog.info? 23).map (·.size) = some 1 := by kernel_rfl
theorem Yba.size3 : (Yba.prog.info? 3).map (·.size) = some 1 := by kernel_rfl

set_option maxRecDepth 100000 in
theorem law_out (a0 : Option Addr) (len0 cap0 : Nat) (a1 : Int) (a2 : Option Addr) (len2 cap2 : Nat) (a3 : Bool) (a4 : Int) (w : World) (h : len0 = 0 ∨ 1024 < len0 ∨ 1024 < len2) :
    Calls Yba.prog 3 #[.slice a0 len0 cap0, .int .u32 a1, .slice a2 len2 cap2, .bool a3, .int .u64 a4] w fun e w' => e = .returned (.bool true) ∧ Below w.heap.size w w' := by
  by_cases c0 : len0 = 0
  · subst c0
    go_enter Yba.func3, Yba.ntmps3
    go_wp2
    go_ret
    exact ⟨rfl, Below.refl _ _⟩
  · have b0 : ((len0 : Int) == 0) = false := by simpa using c0
    by_cases c1 : 1024 < len0
    · have b1 : (1024 : Int) < (len0 : Int) := by omega
      go_enter Yba.func3, Yba.ntmps3
      go_wp2
      go_ret
      exact ⟨rfl, Below.refl _ _⟩
    · have b1 : ¬ (1024 : Int) < (len0 : Int) := by omega
      have b2 : (1024 : Int) < (len2 : Int) := by omega
      go_enter Yba.func3, Yba.ntmps3
      go_wp2
      go_ret
      exact ⟨rfl, Below.refl _ _⟩

theorem spot_none {w : World} {x : Addr} {v : Value} (h : w.cell? (x.add 0) = some v) : ∃ b off, x = ⟨b, off, none⟩ := by
  obtain ⟨b, off, spot⟩ := x
  have : spot = none := by simpa [Addr.add] using World.cell?_spot h
  exact ⟨b, off, by rw [this]⟩

/-- The cells of a list of numbers, where they came from. -/
theorem src_all {b off : Nat} {zs : List Int} {k : IntKind} {p : Nat → Prop} {w w1 : World} (hc : ∀ i, i < zs.length → w.cell? ⟨b, off + i, none⟩ = some (.int k (zs.getD i 0))) (hk : Kp p w w1) (hp : p b) :
    ∀ j v, (zs.map (Value.int k))[j]? = some v → w1.cell? ((⟨b, off, none⟩ : Addr).add j) = some v := by
  intro j v hj
  have hj' : j < zs.length := by
    have := (List.getElem?_eq_some_iff.1 hj).1
    simpa using this
  have e := hc j hj'
  rw [Addr.add_lit]
  rw [World.cell?_of_block (w := w) (hk.block b (World.block_lt_of_cell? w _ e) hp), e]
  have : (zs.map (Value.int k))[j]? = some (.int k (zs.getD j 0)) := by
    simp [List.getD, hj']
  rw [← this, hj]

theorem cell_kp {p : Nat → Prop} {w w1 : World} {a : Addr} {v : Value} (hk : Kp p w w1) (h : w.cell? a = some v) (hp : p a.block) : w1.cell? a = some v := by
  rw [World.cell?_of_block (w := w) (hk.block a.block (World.block_lt_of_cell? w _ h) hp)]; exact h

/-- WHAT IS KNOWN BEHIND 'st.keep(c)': S: the settler's block; M: the marks' row; the arguments' cells stand. -/
structure Aft (w w3 : World) (S M : Nat) (b off : Nat) (ms : List Int) (ms' : List Int) (r : Int) (v : Value) (bb : Bool) (kept : List Int) : Prop where
  own : Own w.heap.size w3 S M v ms' r kept bb
  bel : Below w.heap.size w w3
  arg : ∀ i, i < ms.length → w3.cell? ⟨b, off + i, none⟩ = some (.int .u32 (ms.getD i 0))
  len : ms'.length = ms.length


/-- .. and the cells of 'kept', the argument. -/
structure Aft2 (w w3 : World) (S M : Nat) (b off : Nat) (ms : List Int) (ms' : List Int) (r : Int) (v : Value) (bb : Bool) (kept : List Int) (ka : Addr) (ks : List Int) : Prop extends Aft w w3 S M b off ms ms' r v bb kept where
  argk : ∀ i, i < ks.length → w3.cell? (ka.add i) = some (.int .i64 (ks.getD i 0))

set_option maxRecDepth 100000 in
set_option maxHeartbeats 2000000 in
theorem law_nil_new (b off cap0 : Nat) (ms : List Int) (a1 : Int) (a3 : Bool) (a4 : Int) (w : World) (h0 : 0 < ms.length) (h1 : ms.length ≤ 1024)
    (hc : ∀ i, i < ms.length → w.cell? ⟨b, off + i, none⟩ = some (.int .u32 (ms.getD i 0))) (w4 : 0 ≤ a4) (c : Nat) (hc4 : a4 % (ms.length : Int) = (c : Int)) (hclt : c < ms.length)
    (x : Int) (hx : ms.getD c 0 = x) (hxa : (x == a1) = false) :
    Calls Yba.prog 3 #[.slice (some ⟨b, off, none⟩) ms.length cap0, .int .u32 a1, .slice none 0 0, .bool a3, .int .u64 a4] w fun e w' => e = .returned (.bool true) ∧ Below w.heap.size w w' := by
  have b0 : ((ms.length : Int) == 0) = false := beq_eq_false_iff_ne.2 (by omega)
  have b1 : ¬ (1024 : Int) < (ms.length : Int) := by omega
  obtain ⟨i23, hi, hz0, hz1, hz2⟩ := info_parts Yba.info23
  have hne : ∀ w, (binOp .neq 24 (.slice none 0 0) (.slice none 0 0)).run Yba.prog w = .ok (.bool false) w := fun w => run_neq_slice_nil_any w 24 3 none 0 0 0 0 Yba.underlying24
  have hcc : w.cell? ⟨b, off + c, none⟩ = some (.int .u32 x) := by rw [← hx]; exact hc c hclt
  have HC : Hid (∀ i, i < ms.length → w.cell? ⟨b, off + i, none⟩ = some (.int .u32 (ms.getD i 0))) := hc
  have HX : Hid (ms.getD c 0 = x) := hx
  have hbl : b < w.heap.size := World.block_lt_of_cell? w _ hcc
  clear hc hx
  go_enter Yba.func3, Yba.ntmps3
  go_wp2_with (first
    | (at_make; refine wpList_make_row _ rfl _ _ 22 rfl 23 i23 (.int .u32 0) 4 Yba.underlying22 hi hz0 hz1 hz2 rfl _ _ _ _ ms.length rfl rfl rfl rfl ?c1 ?c2 ?_))
  case c1 => omega
  case c2 => unfold maxLen; omega
  intro w1 hr hk hs
  have hs1 : ∀ j v, (ms.map (Value.int .u32))[j]? = some v → w1.cell? ((⟨b, off, none⟩ : Addr).add j) = some v := src_all HC.out hk trivial
  go_wp2_with (first
    | (with_reducible show wpList _ _ _ (Oper.mk _ (Op.call ⟨Callee.builtin Builtin.copy, _, _⟩) _ _ _ _ :: _) _ _
       refine wpList_copy_whole rfl _ _ 22 22 rfl 23 Yba.underlying22 Yba.size23 _ ms.length _ _ w.heap.size rfl rfl _ 23 hr ?d1 (ms.map (Value.int .u32)) ?d2 ?d3 ?d4 ?_))
  case d1 => simp
  case d2 => simp
  case d3 => intro _; exact ⟨_, rfl, hs1⟩
  case d4 => exact ints_oneCell _ _
  intro w2 hr2 hk2 hz3
  have hkA : Kp (fun k => k ≠ w.heap.size) w w2 := (hk.mono (fun _ _ _ => trivial)).trans hk2
  have hsz2 : w2.heap.size = w.heap.size + 1 := by omega
  have hcc2 := cell_kp hkA hcc (show b ≠ w.heap.size by omega)
  have HR : Hid (w2.heap[w.heap.size]? = some (.cells (ms.map (Value.int .u32)).toArray 23 (0, 0))) := hr2
  have HK : Hid (Kp (fun k => k ≠ w.heap.size) w w2) := hkA
  clear hr2 hkA hk2 hk hs hz3 hs1 hr hcc
  go_wp2_with fail
  have ho : Own w.heap.size (w2.alloc (.cells (stc (.slice none 0 0) w.heap.size ms.length a1 a3).toArray 35)) (w.heap.size + 1) w.heap.size (.slice none 0 0) ms a1 [] a3 :=
    ⟨by rw [← hsz2]; exact heap_alloc_new w2 _, ((Kp.refl (fun _ => True) w2).alloc _).row HR.out trivial, World.ownsRow_nil _ _ _ _, by omega, by simp [Value.ownBlock], by simp [Value.ownBlock], by omega, by omega⟩
  refine (keep_new w.heap.size (w.heap.size + 1) w.heap.size c (.slice none 0 0) ms a1 [] a3 _ ho (by omega) (by rw [HX.out]; simpa using hxa) (by simp)).mono ?_
  rintro e w3 ⟨rfl, v', ho3, hk3, _⟩
  have ha : Aft2 w w3 (w.heap.size + 1) w.heap.size b off ms (ms.set c a1) a1 v' a3 [(c : Int)] ⟨0, 0, none⟩ [] := by
    have k4 : Kp (fun k => k < w.heap.size) w w3 := (HK.out.mono (fun k _ hk => by omega)).trans ((((Kp.refl _ _).alloc _).mono (fun _ _ _ => trivial)).trans (hk3.mono (fun k _ hk => ⟨by omega, by omega, by simp [Value.ownBlock]⟩)))
    exact ⟨⟨ho3, k4.below (Nat.le_refl _) (fun k hk => hk), fun i hi => cell_kp k4 (HC.out i hi) hbl, by simp⟩, fun i hi => absurd hi (by simp)⟩
  clear ho hcc2 ho3 hk3 hsz2 HR HK
  rcases own_shape (zs := [(c : Int)]) ha.own.kp with ⟨_, hno⟩ | ⟨g, cap, rfl, hcap, hgb, hgl, hgc, hgf⟩
  · simp at hno
  have g0 : w3.cell? ⟨g, 0, none⟩ = some (.int .i64 (c : Int)) := by simpa using hgc 0 (by simp)
  clear hgc hgf hcap hgb hgl
  have s5 := ha.own.cellS 5
  have s7 := ha.own.cellS 7
  have s8 := ha.own.cellS 8
  have s14 := ha.own.cellS 14
  simp only [stc, List.getElem?_cons_succ, List.getElem?_cons_zero, ha.len] at s5 s7 s8 s14
  have HA : Hid (Aft2 w w3 (w.heap.size + 1) w.heap.size b off ms (ms.set c a1) a1 (.slice (some ⟨g, 0, none⟩) 1 cap) a3 [(c : Int)] ⟨0, 0, none⟩ []) := ha
  clear ha
  go_wp2
  go_loopw [16] (fun i wr => ∃ k q : Nat, k ≤ ms.length ∧ i = .int .i64 k ∧ wr = w3.drewN q) (fun i _ => ms.length - (intOf i).toNat)
  case atStart => exact ⟨0, 0, Nat.zero_le _, rfl, rfl⟩
  case round =>
    obtain ⟨k, q, hk, rfl, rfl⟩ := hrel
    by_cases hlt : k < ms.length
    · have hM := cell_ints HA.out.own.mrk (j := k) (by simpa using hlt)
      have hA := HA.out.arg k hlt
      by_cases hkc : k = c
      · subst hkc
        have hM' : w3.cell? ⟨w.heap.size, k, none⟩ = some (.int .u32 a1) := by rw [hM]; simp [List.getD, hlt]
        clear hM
        go_wp2
        go_roundw
        case rel => exact ⟨k + 1, q, by omega, by go_num, rfl⟩
        case measure => simp [intOf]; omega
      · have hkb : ((k : Int) == (c : Int)) = false := beq_eq_false_iff_ne.2 (by omega)
        have hM' : w3.cell? ⟨w.heap.size, k, none⟩ = some (.int .u32 (ms.getD k 0)) := by rw [hM]; simp [List.getD, Ne.symm hkc]
        clear hM
        generalize ms.getD k 0 = y at hM' hA
        go_wp2
        go_quiet (fail)
        go_wp2
        go_roundw
        case rel => exact ⟨k + 1, _, by omega, by go_num, rfl⟩
        case measure => simp [intOf]; omega
    · go_wp2
      go_loopw [18] (fun i wr => i = .int .i64 0 ∧ wr = w3.drewN q) (fun _ _ => 0)
      case atStart => exact ⟨rfl, rfl⟩
      case round =>
        obtain ⟨rfl, rfl⟩ := hrel
        go_wp2
        go_ret
        exact ⟨rfl, ⟨HA.out.bel.os, HA.out.bel.tape, HA.out.bel.output, HA.out.bel.size, HA.out.bel.block⟩⟩

set_option maxRecDepth 100000 in
set_option maxHeartbeats 2000000 in
theorem law_nil_was (b off cap0 : Nat) (ms : List Int) (a1 : Int) (a3 : Bool) (a4 : Int) (w : World) (h0 : 0 < ms.length) (h1 : ms.length ≤ 1024)
    (hc : ∀ i, i < ms.length → w.cell? ⟨b, off + i, none⟩ = some (.int .u32 (ms.getD i 0))) (w4 : 0 ≤ a4) (c : Nat) (hc4 : a4 % (ms.length : Int) = (c : Int)) (hclt : c < ms.length)
    (x : Int) (hx : ms.getD c 0 = x) (hxa : x = a1) :
    Calls Yba.prog 3 #[.slice (some ⟨b, off, none⟩) ms.length cap0, .int .u32 a1, .slice none 0 0, .bool a3, .int .u64 a4] w fun e w' => e = .returned (.bool true) ∧ Below w.heap.size w w' := by
  subst hxa
  have b0 : ((ms.length : Int) == 0) = false := beq_eq_false_iff_ne.2 (by omega)
  have b1 : ¬ (1024 : Int) < (ms.length : Int) := by omega
  obtain ⟨i23, hi, hz0, hz1, hz2⟩ := info_parts Yba.info23
  have hne : ∀ w, (binOp .neq 24 (.slice none 0 0) (.slice none 0 0)).run Yba.prog w = .ok (.bool false) w := fun w => run_neq_slice_nil_any w 24 3 none 0 0 0 0 Yba.underlying24
  have hcc : w.cell? ⟨b, off + c, none⟩ = some (.int .u32 x) := by rw [← hx]; exact hc c hclt
  have HC : Hid (∀ i, i < ms.length → w.cell? ⟨b, off + i, none⟩ = some (.int .u32 (ms.getD i 0))) := hc
  have HX : Hid (ms.getD c 0 = x) := hx
  have hbl : b < w.heap.size := World.block_lt_of_cell? w _ hcc
  clear hc hx
  go_enter Yba.func3, Yba.ntmps3
  go_wp2_with (first
    | (at_make; refine wpList_make_row _ rfl _ _ 22 rfl 23 i23 (.int .u32 0) 4 Yba.underlying22 hi hz0 hz1 hz2 rfl _ _ _ _ ms.length rfl rfl rfl rfl ?c1 ?c2 ?_))
  case c1 => omega
  case c2 => unfold maxLen; omega
  intro w1 hr hk hs
  have hs1 : ∀ j v, (ms.map (Value.int .u32))[j]? = some v → w1.cell? ((⟨b, off, none⟩ : Addr).add j) = some v := src_all HC.out hk trivial
  go_wp2_with (first
    | (with_reducible show wpList _ _ _ (Oper.mk _ (Op.call ⟨Callee.builtin Builtin.copy, _, _⟩) _ _ _ _ :: _) _ _
       refine wpList_copy_whole rfl _ _ 22 22 rfl 23 Yba.underlying22 Yba.size23 _ ms.length _ _ w.heap.size rfl rfl _ 23 hr ?d1 (ms.map (Value.int .u32)) ?d2 ?d3 ?d4 ?_))
  case d1 => simp
  case d2 => simp
  case d3 => intro _; exact ⟨_, rfl, hs1⟩
  case d4 => exact ints_oneCell _ _
  intro w2 hr2 hk2 hz3
  have hkA : Kp (fun k => k ≠ w.heap.size) w w2 := (hk.mono (fun _ _ _ => trivial)).trans hk2
  have hsz2 : w2.heap.size = w.heap.size + 1 := by omega
  have hcc2 := cell_kp hkA hcc (show b ≠ w.heap.size by omega)
  have HR : Hid (w2.heap[w.heap.size]? = some (.cells (ms.map (Value.int .u32)).toArray 23 (0, 0))) := hr2
  have HK : Hid (Kp (fun k => k ≠ w.heap.size) w w2) := hkA
  clear hr2 hkA hk2 hk hs hz3 hs1 hr hcc
  go_wp2_with fail
  have ho : Own w.heap.size (w2.alloc (.cells (stc (.slice none 0 0) w.heap.size ms.length x a3).toArray 35)) (w.heap.size + 1) w.heap.size (.slice none 0 0) ms x [] a3 :=
    ⟨by rw [← hsz2]; exact heap_alloc_new w2 _, ((Kp.refl (fun _ => True) w2).alloc _).row HR.out trivial, World.ownsRow_nil _ _ _ _, by omega, by simp [Value.ownBlock], by simp [Value.ownBlock], by omega, by omega⟩
  refine (keep_seen w.heap.size (w.heap.size + 1) w.heap.size c (.slice none 0 0) ms x [] a3 _ ho (by omega) HX.out).mono ?_
  rintro e w3 ⟨rfl, ho3, hk3⟩
  have ha : Aft2 w w3 (w.heap.size + 1) w.heap.size b off ms ms x (.slice none 0 0) false [] ⟨0, 0, none⟩ [] := by
    have k4 : Kp (fun k => k < w.heap.size) w w3 := (HK.out.mono (fun k _ hk => by omega)).trans ((((Kp.refl _ _).alloc _).mono (fun _ _ _ => trivial)).trans (hk3.mono (fun k _ hk => by omega)))
    exact ⟨⟨ho3, k4.below (Nat.le_refl _) (fun k hk => hk), fun i hi => cell_kp k4 (HC.out i hi) hbl, by simp⟩, fun i hi => absurd hi (by simp)⟩
  clear ho hcc2 ho3 hk3 hsz2 HR HK
  have s5 := ha.own.cellS 5
  have s7 := ha.own.cellS 7
  have s8 := ha.own.cellS 8
  have s14 := ha.own.cellS 14
  simp only [stc, List.getElem?_cons_succ, List.getElem?_cons_zero] at s5 s7 s8 s14
  have HA : Hid (Aft2 w w3 (w.heap.size + 1) w.heap.size b off ms ms x (.slice none 0 0) false [] ⟨0, 0, none⟩ []) := ha
  clear ha
  go_wp2
  go_loopw [16] (fun i wr => ∃ k q : Nat, k ≤ ms.length ∧ i = .int .i64 k ∧ wr = w3.drewN q) (fun i _ => ms.length - (intOf i).toNat)
  case atStart => exact ⟨0, 0, Nat.zero_le _, rfl, rfl⟩
  case round =>
    obtain ⟨k, q, hk, rfl, rfl⟩ := hrel
    by_cases hlt : k < ms.length
    · have hM := cell_ints HA.out.own.mrk (j := k) (by simpa using hlt)
      have hA := HA.out.arg k hlt
      by_cases hkc : k = c
      · subst hkc
        generalize ms.getD k 0 = y at hM hA
        go_wp2
        go_quiet (fail)
        go_wp2
        go_roundw
        case rel => exact ⟨k + 1, _, by omega, by go_num, rfl⟩
        case measure => simp [intOf]; omega
      · have hkb : ((k : Int) == (c : Int)) = false := beq_eq_false_iff_ne.2 (by omega)
        have hM' : w3.cell? ⟨w.heap.size, k, none⟩ = some (.int .u32 (ms.getD k 0)) := by rw [hM]
        clear hM
        generalize ms.getD k 0 = y at hM' hA
        go_wp2
        go_quiet (fail)
        go_wp2
        go_roundw
        case rel => exact ⟨k + 1, _, by omega, by go_num, rfl⟩
        case measure => simp [intOf]; omega
    · go_wp2
      go_loopw [17] (fun i wr => i = .int .i64 0 ∧ wr = w3.drewN q) (fun _ _ => 0)
      case atStart => exact ⟨rfl, rfl⟩
      case round =>
        obtain ⟨rfl, rfl⟩ := hrel
        go_wp2
        go_ret
        exact ⟨rfl, ⟨HA.out.bel.os, HA.out.bel.tape, HA.out.bel.output, HA.out.bel.size, HA.out.bel.block⟩⟩

set_option maxRecDepth 100000 in
set_option maxHeartbeats 2000000 in
theorem law_some_new (b off cap0 : Nat) (ms : List Int) (a1 : Int) (a3 : Bool) (a4 : Int) (w : World) (h0 : 0 < ms.length) (h1 : ms.length ≤ 1024)
    (hc : ∀ i, i < ms.length → w.cell? ⟨b, off + i, none⟩ = some (.int .u32 (ms.getD i 0))) (w4 : 0 ≤ a4) (c : Nat) (hc4 : a4 % (ms.length : Int) = (c : Int)) (hclt : c < ms.length)
    (x : Int) (hx : ms.getD c 0 = x) (hxa : (x == a1) = false) (ka : Addr) (cap2 : Nat) (ks : List Int) (h2 : ks.length ≤ 1024)
    (hck : ∀ i, i < ks.length → w.cell? (ka.add i) = some (.int .i64 (ks.getD i 0))) :
    Calls Yba.prog 3 #[.slice (some ⟨b, off, none⟩) ms.length cap0, .int .u32 a1, .slice (some ka) ks.length cap2, .bool a3, .int .u64 a4] w fun e w' => e = .returned (.bool true) ∧ Below w.heap.size w w' := by
  have b0 : ((ms.length : Int) == 0) = false := beq_eq_false_iff_ne.2 (by omega)
  have b1 : ¬ (1024 : Int) < (ms.length : Int) := by omega
  obtain ⟨i23, hi, hz0, hz1, hz2⟩ := info_parts Yba.info23
  have hne : ∀ w, (binOp .neq 24 (.slice (some ka) ks.length cap2) (.slice none 0 0)).run Yba.prog w = .ok (.bool true) w := fun w => run_neq_slice_nil_any w 24 3 (some ka) ks.length cap2 0 0 Yba.underlying24
  have b2 : ¬ (1024 : Int) < (ks.length : Int) := by omega
  obtain ⟨i3, ki, kz0, kz1, kz2⟩ := info_parts Yba.info3
  have HCK : Hid (∀ i, i < ks.length → w.cell? (ka.add i) = some (.int .i64 (ks.getD i 0))) := hck
  clear hck
  have hcc : w.cell? ⟨b, off + c, none⟩ = some (.int .u32 x) := by rw [← hx]; exact hc c hclt
  have HC : Hid (∀ i, i < ms.length → w.cell? ⟨b, off + i, none⟩ = some (.int .u32 (ms.getD i 0))) := hc
  have HX : Hid (ms.getD c 0 = x) := hx
  have hbl : b < w.heap.size := World.block_lt_of_cell? w _ hcc
  clear hc hx
  go_enter Yba.func3, Yba.ntmps3
  go_wp2_with (first
    | (at_make; refine wpList_make_row _ rfl _ _ 22 rfl 23 i23 (.int .u32 0) 4 Yba.underlying22 hi hz0 hz1 hz2 rfl _ _ _ _ ms.length rfl rfl rfl rfl ?c1 ?c2 ?_))
  case c1 => omega
  case c2 => unfold maxLen; omega
  intro w1 hr hk hs
  have hs1 : ∀ j v, (ms.map (Value.int .u32))[j]? = some v → w1.cell? ((⟨b, off, none⟩ : Addr).add j) = some v := src_all HC.out hk trivial
  go_wp2_with (first
    | (with_reducible show wpList _ _ _ (Oper.mk _ (Op.call ⟨Callee.builtin Builtin.copy, _, _⟩) _ _ _ _ :: _) _ _
       refine wpList_copy_whole rfl _ _ 22 22 rfl 23 Yba.underlying22 Yba.size23 _ ms.length _ _ w.heap.size rfl rfl _ 23 hr ?d1 (ms.map (Value.int .u32)) ?d2 ?d3 ?d4 ?_))
  case d1 => simp
  case d2 => simp
  case d3 => intro _; exact ⟨_, rfl, hs1⟩
  case d4 => exact ints_oneCell _ _
  intro w2 hr2 hk2 hz3
  have hkA : Kp (fun k => k ≠ w.heap.size) w w2 := (hk.mono (fun _ _ _ => trivial)).trans hk2
  have hsz2 : w2.heap.size = w.heap.size + 1 := by omega
  have hcc2 := cell_kp hkA hcc (show b ≠ w.heap.size by omega)
  have HR : Hid (w2.heap[w.heap.size]? = some (.cells (ms.map (Value.int .u32)).toArray 23 (0, 0))) := hr2
  have HK : Hid (Kp (fun k => k ≠ w.heap.size) w w2) := hkA
  clear hr2 hkA hk2 hk hs hz3 hs1 hr hcc
  go_wp2_with (first
    | (at_make; refine wpList_make_row _ rfl _ _ 24 rfl 3 i3 (.int .i64 0) 8 Yba.underlying24 ki kz0 kz1 kz2 rfl _ _ _ _ ks.length rfl rfl rfl rfl ?e1 ?e2 ?_))
  case e1 => omega
  case e2 => unfold maxLen; omega
  intro w5 hr5 hk5 hs5
  have hr5' : w5.heap[w.heap.size + 1]? = some (.cells (List.replicate ks.length (Value.int .i64 0)).toArray 3 (0, 0)) := by simpa using hr5
  have hs6 : ∀ j v, (ks.map (Value.int .i64))[j]? = some v → w5.cell? (ka.add j) = some v := fun j v hj => by
    have hj' : j < ks.length := by
      have := (List.getElem?_eq_some_iff.1 hj).1
      simpa using this
    have hl := World.block_lt_of_cell? w _ (HCK.out j hj')
    have e : (ks.map (Value.int .i64))[j]? = some (.int .i64 (ks.getD j 0)) := by simp [List.getD, hj']
    rw [cell_kp (HK.out.trans (hk5.mono (fun _ _ _ => trivial))) (HCK.out j hj') (show (ka.add j).block ≠ w.heap.size by omega), ← e, hj]
  go_wp2_with (first
    | (with_reducible show wpList _ _ _ (Oper.mk _ (Op.call ⟨Callee.builtin Builtin.copy, _, _⟩) _ _ _ _ :: _) _ _
       refine wpList_copy_whole rfl _ _ 24 24 rfl 3 Yba.underlying24 Yba.size3 _ ks.length _ _ (w.heap.size + 1) rfl rfl _ 3 hr5' ?f1 (ks.map (Value.int .i64)) ?f2 ?f3 ?f4 ?_))
  case f1 => simp
  case f2 => simp
  case f3 => intro _; exact ⟨_, rfl, hs6⟩
  case f4 => exact ints_oneCell _ _
  intro w6 hr6 hk6 hz6
  have hcc5 := cell_kp (hk5.mono (q := fun k => k ≠ w.heap.size + 1) (fun _ _ _ => trivial)) hcc2 (show b ≠ w.heap.size + 1 by omega)
  have hcc6 := cell_kp hk6 hcc5 (show b ≠ w.heap.size + 1 by omega)
  have hsz6 : w6.heap.size = w.heap.size + 2 := by omega
  have HK6 : Hid (Kp (fun k => k ≠ w.heap.size + 1) w2 w6) := (hk5.mono (fun _ _ _ => trivial)).trans hk6
  have HR6 : Hid (w6.heap[w.heap.size + 1]? = some (.cells (ks.map (Value.int .i64)).toArray 3 (0, 0))) := hr6
  clear hr5 hr5' hk5 hs5 hs6 hr6 hk6 hz6 hcc2 hcc5 hsz2
  go_wp2_with fail
  have ho : Own w.heap.size (w6.alloc (.cells (stc (.slice (some ⟨w.heap.size + 1, 0, none⟩) ks.length ks.length) w.heap.size ms.length a1 a3).toArray 35)) (w.heap.size + 2) w.heap.size (.slice (some ⟨w.heap.size + 1, 0, none⟩) ks.length ks.length) ms a1 ks a3 :=
    ⟨by rw [← hsz6]; exact heap_alloc_new w6 _, ((Kp.refl (fun _ => True) w6).alloc _).row (HK6.out.row HR.out (by omega)) trivial, own_of_row (((Kp.refl (fun _ => True) w6).alloc _).row HR6.out trivial) (by omega) (by simp) (by unfold maxLen; omega), by omega, by simp [Value.ownBlock], by simp [Value.ownBlock], by omega, by omega⟩
  refine (keep_new w.heap.size (w.heap.size + 2) w.heap.size c (.slice (some ⟨w.heap.size + 1, 0, none⟩) ks.length ks.length) ms a1 ks a3 _ ho (by omega) (by rw [HX.out]; simpa using hxa) (by omega)).mono ?_
  rintro e w3 ⟨rfl, v', ho3, hk3, _⟩
  have ha : Aft2 w w3 (w.heap.size + 2) w.heap.size b off ms (ms.set c a1) a1 v' a3 (ks ++ [(c : Int)]) ka ks := by
    have k4 : Kp (fun k => k < w.heap.size) w w3 := ((HK.out.mono (fun k _ hk => by omega)).trans (HK6.out.mono (fun k _ hk => by omega))).trans ((((Kp.refl _ _).alloc _).mono (fun _ _ _ => trivial)).trans (hk3.mono (fun k _ hk => ⟨by omega, by omega, by simp [Value.ownBlock]; omega⟩)))
    exact ⟨⟨ho3, k4.below (Nat.le_refl _) (fun k hk => hk), fun i hi => cell_kp k4 (HC.out i hi) hbl, by simp⟩, fun i hi => cell_kp k4 (HCK.out i hi) (World.block_lt_of_cell? w _ (HCK.out i hi))⟩
  clear ho hcc6 ho3 hk3 hsz6 HR HK HR6 HK6
  rcases own_shape (zs := (ks ++ [(c : Int)])) ha.own.kp with ⟨_, hno⟩ | ⟨g, cap, rfl, hcap, hgb, hgl, hgc, hgf⟩
  · simp at hno
  have g0 : w3.cell? ⟨g, ks.length, none⟩ = some (.int .i64 (c : Int)) := by simpa [List.getD] using hgc ks.length (by simp)
  have HG : Hid (∀ j, j < (ks ++ [(c : Int)]).length → w3.cell? ⟨g, j, none⟩ = some (.int .i64 ((ks ++ [(c : Int)]).getD j 0))) := hgc
  rw [show (ks ++ [(c : Int)]).length = ks.length + 1 by simp] at *
  clear hgc hgf hcap hgb hgl
  have s5 := ha.own.cellS 5
  have s7 := ha.own.cellS 7
  have s8 := ha.own.cellS 8
  have s14 := ha.own.cellS 14
  simp only [stc, List.getElem?_cons_succ, List.getElem?_cons_zero, ha.len] at s5 s7 s8 s14
  have HA : Hid (Aft2 w w3 (w.heap.size + 2) w.heap.size b off ms (ms.set c a1) a1 (.slice (some ⟨g, 0, none⟩) (ks.length + 1) cap) a3 (ks ++ [(c : Int)]) ka ks) := ha
  clear ha
  go_wp2
  go_loopw [16] (fun i wr => ∃ k q : Nat, k ≤ ms.length ∧ i = .int .i64 k ∧ wr = w3.drewN q) (fun i _ => ms.length - (intOf i).toNat)
  case atStart => exact ⟨0, 0, Nat.zero_le _, rfl, rfl⟩
  case round =>
    obtain ⟨k, q, hk, rfl, rfl⟩ := hrel
    by_cases hlt : k < ms.length
    · have hM := cell_ints HA.out.own.mrk (j := k) (by simpa using hlt)
      have hA := HA.out.arg k hlt
      by_cases hkc : k = c
      · subst hkc
        have hM' : w3.cell? ⟨w.heap.size, k, none⟩ = some (.int .u32 a1) := by rw [hM]; simp [List.getD, hlt]
        clear hM
        go_wp2
        go_roundw
        case rel => exact ⟨k + 1, q, by omega, by go_num, rfl⟩
        case measure => simp [intOf]; omega
      · have hkb : ((k : Int) == (c : Int)) = false := beq_eq_false_iff_ne.2 (by omega)
        have hM' : w3.cell? ⟨w.heap.size, k, none⟩ = some (.int .u32 (ms.getD k 0)) := by rw [hM]; simp [List.getD, Ne.symm hkc]
        clear hM
        generalize ms.getD k 0 = y at hM' hA
        go_wp2
        go_quiet (fail)
        go_wp2
        go_roundw
        case rel => exact ⟨k + 1, _, by omega, by go_num, rfl⟩
        case measure => simp [intOf]; omega
    · go_wp2
      go_loopw [18] (fun i wr => ∃ k q : Nat, k ≤ ks.length ∧ i = .int .i64 k ∧ wr = w3.drewN q) (fun i _ => ks.length - (intOf i).toNat)
      case atStart => exact ⟨0, q, Nat.zero_le _, rfl, rfl⟩
      case round =>
        clear hk hlt
        obtain ⟨k, q, hk, rfl, rfl⟩ := hrel
        by_cases hlt : k < ks.length
        · have hM := HG.out k (by omega)
          obtain ⟨kb, koff, rfl⟩ := spot_none (HA.out.argk 0 (by omega))
          have hA := HA.out.argk k hlt
          rw [Addr.add_lit] at hA
          rw [show (ks ++ [(c : Int)]).getD k 0 = ks.getD k 0 by simp [List.getD, List.getElem?_append_left hlt]] at hM
          generalize ks.getD k 0 = y at hM hA
          have hlt2 : (k : Int) < (ks.length : Int) + 1 := by omega
          go_wp2
          go_quiet (fail)
          go_wp2
          go_roundw
          case rel => exact ⟨k + 1, _, by omega, by go_num, rfl⟩
          case measure => simp [intOf]; omega
        · go_wp2
          go_ret
          exact ⟨rfl, ⟨HA.out.bel.os, HA.out.bel.tape, HA.out.bel.output, HA.out.bel.size, HA.out.bel.block⟩⟩

set_option maxRecDepth 100000 in
set_option maxHeartbeats 2000000 in
theorem law_some_was (b off cap0 : Nat) (ms : List Int) (a1 : Int) (a3 : Bool) (a4 : Int) (w : World) (h0 : 0 < ms.length) (h1 : ms.length ≤ 1024)
    (hc : ∀ i, i < ms.length → w.cell? ⟨b, off + i, none⟩ = some (.int .u32 (ms.getD i 0))) (w4 : 0 ≤ a4) (c : Nat) (hc4 : a4 % (ms.length : Int) = (c : Int)) (hclt : c < ms.length)
    (x : Int) (hx : ms.getD c 0 = x) (hxa : x = a1) (ka : Addr) (cap2 : Nat) (ks : List Int) (h2 : ks.length ≤ 1024)
    (hck : ∀ i, i < ks.length → w.cell? (ka.add i) = some (.int .i64 (ks.getD i 0))) :
    Calls Yba.prog 3 #[.slice (some ⟨b, off, none⟩) ms.length cap0, .int .u32 a1, .slice (some ka) ks.length cap2, .bool a3, .int .u64 a4] w fun e w' => e = .returned (.bool true) ∧ Below w.heap.size w w' := by
  subst hxa
  have b0 : ((ms.length : Int) == 0) = false := beq_eq_false_iff_ne.2 (by omega)
  have b1 : ¬ (1024 : Int) < (ms.length : Int) := by omega
  obtain ⟨i23, hi, hz0, hz1, hz2⟩ := info_parts Yba.info23
  have hne : ∀ w, (binOp .neq 24 (.slice (some ka) ks.length cap2) (.slice none 0 0)).run Yba.prog w = .ok (.bool true) w := fun w => run_neq_slice_nil_any w 24 3 (some ka) ks.length cap2 0 0 Yba.underlying24
  have b2 : ¬ (1024 : Int) < (ks.length : Int) := by omega
  obtain ⟨i3, ki, kz0, kz1, kz2⟩ := info_parts Yba.info3
  have HCK : Hid (∀ i, i < ks.length → w.cell? (ka.add i) = some (.int .i64 (ks.getD i 0))) := hck
  clear hck
  have hcc : w.cell? ⟨b, off + c, none⟩ = some (.int .u32 x) := by rw [← hx]; exact hc c hclt
  have HC : Hid (∀ i, i < ms.length → w.cell? ⟨b, off + i, none⟩ = some (.int .u32 (ms.getD i 0))) := hc
  have HX : Hid (ms.getD c 0 = x) := hx
  have hbl : b < w.heap.size := World.block_lt_of_cell? w _ hcc
  clear hc hx
  go_enter Yba.func3, Yba.ntmps3
  go_wp2_with (first
    | (at_make; refine wpList_make_row _ rfl _ _ 22 rfl 23 i23 (.int .u32 0) 4 Yba.underlying22 hi hz0 hz1 hz2 rfl _ _ _ _ ms.length rfl rfl rfl rfl ?c1 ?c2 ?_))
  case c1 => omega
  case c2 => unfold maxLen; omega
  intro w1 hr hk hs
  have hs1 : ∀ j v, (ms.map (Value.int .u32))[j]? = some v → w1.cell? ((⟨b, off, none⟩ : Addr).add j) = some v := src_all HC.out hk trivial
  go_wp2_with (first
    | (with_reducible show wpList _ _ _ (Oper.mk _ (Op.call ⟨Callee.builtin Builtin.copy, _, _⟩) _ _ _ _ :: _) _ _
       refine wpList_copy_whole rfl _ _ 22 22 rfl 23 Yba.underlying22 Yba.size23 _ ms.length _ _ w.heap.size rfl rfl _ 23 hr ?d1 (ms.map (Value.int .u32)) ?d2 ?d3 ?d4 ?_))
  case d1 => simp
  case d2 => simp
  case d3 => intro _; exact ⟨_, rfl, hs1⟩
  case d4 => exact ints_oneCell _ _
  intro w2 hr2 hk2 hz3
  have hkA : Kp (fun k => k ≠ w.heap.size) w w2 := (hk.mono (fun _ _ _ => trivial)).trans hk2
  have hsz2 : w2.heap.size = w.heap.size + 1 := by omega
  have hcc2 := cell_kp hkA hcc (show b ≠ w.heap.size by omega)
  have HR : Hid (w2.heap[w.heap.size]? = some (.cells (ms.map (Value.int .u32)).toArray 23 (0, 0))) := hr2
  have HK : Hid (Kp (fun k => k ≠ w.heap.size) w w2) := hkA
  clear hr2 hkA hk2 hk hs hz3 hs1 hr hcc
  go_wp2_with (first
    | (at_make; refine wpList_make_row _ rfl _ _ 24 rfl 3 i3 (.int .i64 0) 8 Yba.underlying24 ki kz0 kz1 kz2 rfl _ _ _ _ ks.length rfl rfl rfl rfl ?e1 ?e2 ?_))
  case e1 => omega
  case e2 => unfold maxLen; omega
  intro w5 hr5 hk5 hs5
  have hr5' : w5.heap[w.heap.size + 1]? = some (.cells (List.replicate ks.length (Value.int .i64 0)).toArray 3 (0, 0)) := by simpa using hr5
  have hs6 : ∀ j v, (ks.map (Value.int .i64))[j]? = some v → w5.cell? (ka.add j) = some v := fun j v hj => by
    have hj' : j < ks.length := by
      have := (List.getElem?_eq_some_iff.1 hj).1
      simpa using this
    have hl := World.block_lt_of_cell? w _ (HCK.out j hj')
    have e : (ks.map (Value.int .i64))[j]? = some (.int .i64 (ks.getD j 0)) := by simp [List.getD, hj']
    rw [cell_kp (HK.out.trans (hk5.mono (fun _ _ _ => trivial))) (HCK.out j hj') (show (ka.add j).block ≠ w.heap.size by omega), ← e, hj]
  go_wp2_with (first
    | (with_reducible show wpList _ _ _ (Oper.mk _ (Op.call ⟨Callee.builtin Builtin.copy, _, _⟩) _ _ _ _ :: _) _ _
       refine wpList_copy_whole rfl _ _ 24 24 rfl 3 Yba.underlying24 Yba.size3 _ ks.length _ _ (w.heap.size + 1) rfl rfl _ 3 hr5' ?f1 (ks.map (Value.int .i64)) ?f2 ?f3 ?f4 ?_))
  case f1 => simp
  case f2 => simp
  case f3 => intro _; exact ⟨_, rfl, hs6⟩
  case f4 => exact ints_oneCell _ _
  intro w6 hr6 hk6 hz6
  have hcc5 := cell_kp (hk5.mono (q := fun k => k ≠ w.heap.size + 1) (fun _ _ _ => trivial)) hcc2 (show b ≠ w.heap.size + 1 by omega)
  have hcc6 := cell_kp hk6 hcc5 (show b ≠ w.heap.size + 1 by omega)
  have hsz6 : w6.heap.size = w.heap.size + 2 := by omega
  have HK6 : Hid (Kp (fun k => k ≠ w.heap.size + 1) w2 w6) := (hk5.mono (fun _ _ _ => trivial)).trans hk6
  have HR6 : Hid (w6.heap[w.heap.size + 1]? = some (.cells (ks.map (Value.int .i64)).toArray 3 (0, 0))) := hr6
  clear hr5 hr5' hk5 hs5 hs6 hr6 hk6 hz6 hcc2 hcc5 hsz2
  go_wp2_with fail
  have ho : Own w.heap.size (w6.alloc (.cells (stc (.slice (some ⟨w.heap.size + 1, 0, none⟩) ks.length ks.length) w.heap.size ms.length x a3).toArray 35)) (w.heap.size + 2) w.heap.size (.slice (some ⟨w.heap.size + 1, 0, none⟩) ks.length ks.length) ms x ks a3 :=
    ⟨by rw [← hsz6]; exact heap_alloc_new w6 _, ((Kp.refl (fun _ => True) w6).alloc _).row (HK6.out.row HR.out (by omega)) trivial, own_of_row (((Kp.refl (fun _ => True) w6).alloc _).row HR6.out trivial) (by omega) (by simp) (by unfold maxLen; omega), by omega, by simp [Value.ownBlock], by simp [Value.ownBlock], by omega, by omega⟩
  refine (keep_seen w.heap.size (w.heap.size + 2) w.heap.size c (.slice (some ⟨w.heap.size + 1, 0, none⟩) ks.length ks.length) ms x ks a3 _ ho (by omega) HX.out).mono ?_
  rintro e w3 ⟨rfl, ho3, hk3⟩
  have ha : Aft2 w w3 (w.heap.size + 2) w.heap.size b off ms ms x (.slice (some ⟨w.heap.size + 1, 0, none⟩) ks.length ks.length) false ks ka ks := by
    have k4 : Kp (fun k => k < w.heap.size) w w3 := ((HK.out.mono (fun k _ hk => by omega)).trans (HK6.out.mono (fun k _ hk => by omega))).trans ((((Kp.refl _ _).alloc _).mono (fun _ _ _ => trivial)).trans (hk3.mono (fun k _ hk => by omega)))
    exact ⟨⟨ho3, k4.below (Nat.le_refl _) (fun k hk => hk), fun i hi => cell_kp k4 (HC.out i hi) hbl, by simp⟩, fun i hi => cell_kp k4 (HCK.out i hi) (World.block_lt_of_cell? w _ (HCK.out i hi))⟩
  clear ho hcc6 ho3 hk3 hsz6 HR HK HR6 HK6
  have HG : Hid (∀ j, j < ks.length → w3.cell? ⟨w.heap.size + 1, j, none⟩ = some (.int .i64 (ks.getD j 0))) := fun j hj => by
    rcases own_shape ha.own.kp with ⟨hno, _⟩ | ⟨g, cap, hv, hcap, hgb, hgl, hgc, hgf⟩
    · simp at hno
    · simp at hv
      rw [hv.1]; exact hgc j hj
  have s5 := ha.own.cellS 5
  have s7 := ha.own.cellS 7
  have s8 := ha.own.cellS 8
  have s14 := ha.own.cellS 14
  simp only [stc, List.getElem?_cons_succ, List.getElem?_cons_zero] at s5 s7 s8 s14
  have HA : Hid (Aft2 w w3 (w.heap.size + 2) w.heap.size b off ms ms x (.slice (some ⟨w.heap.size + 1, 0, none⟩) ks.length ks.length) false ks ka ks) := ha
  clear ha
  go_wp2
  go_loopw [16] (fun i wr => ∃ k q : Nat, k ≤ ms.length ∧ i = .int .i64 k ∧ wr = w3.drewN q) (fun i _ => ms.length - (intOf i).toNat)
  case atStart => exact ⟨0, 0, Nat.zero_le _, rfl, rfl⟩
  case round =>
    obtain ⟨k, q, hk, rfl, rfl⟩ := hrel
    by_cases hlt : k < ms.length
    · have hM := cell_ints HA.out.own.mrk (j := k) (by simpa using hlt)
      have hA := HA.out.arg k hlt
      by_cases hkc : k = c
      · subst hkc
        generalize ms.getD k 0 = y at hM hA
        go_wp2
        go_quiet (fail)
        go_wp2
        go_roundw
        case rel => exact ⟨k + 1, _, by omega, by go_num, rfl⟩
        case measure => simp [intOf]; omega
      · have hkb : ((k : Int) == (c : Int)) = false := beq_eq_false_iff_ne.2 (by omega)
        have hM' : w3.cell? ⟨w.heap.size, k, none⟩ = some (.int .u32 (ms.getD k 0)) := by rw [hM]
        clear hM
        generalize ms.getD k 0 = y at hM' hA
        go_wp2
        go_quiet (fail)
        go_wp2
        go_roundw
        case rel => exact ⟨k + 1, _, by omega, by go_num, rfl⟩
        case measure => simp [intOf]; omega
    · go_wp2
      go_loopw [17] (fun i wr => ∃ k q : Nat, k ≤ ks.length ∧ i = .int .i64 k ∧ wr = w3.drewN q) (fun i _ => ks.length - (intOf i).toNat)
      case atStart => exact ⟨0, q, Nat.zero_le _, rfl, rfl⟩
      case round =>
        clear hk hlt
        obtain ⟨k, q, hk, rfl, rfl⟩ := hrel
        by_cases hlt : k < ks.length
        · have hM := HG.out k (by omega)
          obtain ⟨kb, koff, rfl⟩ := spot_none (HA.out.argk 0 (by omega))
          have hA := HA.out.argk k hlt
          rw [Addr.add_lit] at hA
          generalize ks.getD k 0 = y at hM hA
          skip
          go_wp2
          go_quiet (fail)
          go_wp2
          go_roundw
          case rel => exact ⟨k + 1, _, by omega, by go_num, rfl⟩
          case measure => simp [intOf]; omega
        · go_wp2
          go_ret
          exact ⟨rfl, ⟨HA.out.bel.os, HA.out.bel.tape, HA.out.bel.output, HA.out.bel.size, HA.out.bel.block⟩⟩

end Go.Proofs.Ybulkawhc.Kee
