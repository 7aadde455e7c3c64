import Derived.Test.YbulkawhcDoorMem
namespace Go.Proofs.YbulkawhcDoor.Me
open Go.ChangeShapes Go.WideShapes Go.ChangeAt Go.RowKit Go.Proofs.YbulkawhcDoor.Lw Go.Proofs.YbulkawhcDoor Go.Proofs.YbulkawhcDoor.Pl

/-- A slice of bools, read. -/
def SB (w : World) (ua : Option Addr) (n : Nat) (f : Nat → Bool) : Prop := ∀ i, i < n → ∃ g, ua = some ⟨g, 0, none⟩ ∧ w.cell? ⟨g, i, none⟩ = some (.bool (f i))
theorem sb_kp {p : Nat → Prop} {w w1 : World} {ua : Option Addr} {n : Nat} {f : Nat → Bool} (h : SB w ua n f) (hk : Kp p w w1) (hp : ∀ g, ua = some ⟨g, 0, none⟩ → p g) : SB w1 ua n f := fun i hi => by
  obtain ⟨g, e, hc⟩ := h i hi
  exact ⟨g, e, cell_kp hk hc (hp g e)⟩
/-- A slice of members, read. -/
def SR (w : World) (ua : Option Addr) (ms : List Mem) : Prop := ∀ i, i < ms.length → ∃ g, ua = some ⟨g, 0, none⟩ ∧ w.cell? ⟨g, i * 2, none⟩ = some (.string (nm (ms.getD i (0, 0)).1)) ∧ w.cell? ⟨g, i * 2 + 1, none⟩ = some (.int .u8 ((ms.getD i (0, 0)).2 : Int))
theorem sr_kp {w w1 : World} {ua : Option Addr} {ms : List Mem} (h : SR w ua ms) (hk : Kp (fun _ => True) w w1) : SR w1 ua ms := fun i hi => by
  obtain ⟨g, e, h0, h1⟩ := h i hi
  exact ⟨g, e, cell_kp hk h0 trivial, cell_kp hk h1 trivial⟩
theorem sr_below {B : Nat} {w w1 : World} {ua : Option Addr} {ms : List Mem} (h : SR w ua ms) (hk : Below B w w1) (hB : w.heap.size ≤ B) : SR w1 ua ms := fun i hi => by
  obtain ⟨g, e, h0, h1⟩ := h i hi
  have hl : g < w.heap.size := World.block_lt_of_cell? w _ h0
  exact ⟨g, e, (hk.cell (p := ⟨g, i * 2, none⟩) (show g < B by omega)).trans h0, (hk.cell (p := ⟨g, i * 2 + 1, none⟩) (show g < B by omega)).trans h1⟩
theorem sr_of_ms {w wr : World} {tv : Value} {ms : List Mem} (h : MS w wr tv ms) : ∃ ua cap, tv = .slice ua ms.length cap ∧ SR wr ua ms := by
  obtain ⟨ua, cap, e, hc⟩ := own_cells h.own
  refine ⟨ua, cap, e, fun i hi => ?_⟩
  obtain ⟨c0, c1⟩ := mrow_get ms i hi
  obtain ⟨g, e0, _, _, h0⟩ := hc _ _ c0
  obtain ⟨g', e1, _, _, h1⟩ := hc _ _ c1
  obtain rfl : g = g' := by rw [e0] at e1; simpa using e1
  exact ⟨g, e0, h0, h1⟩

/-- A row by an index function. -/
def rowF (n : Nat) (f : Nat → Value) : List Value := (List.range n).map f
theorem rowF_len (n : Nat) (f : Nat → Value) : (rowF n f).length = n := by simp [rowF]
theorem rowF_get (n : Nat) (f : Nat → Value) (i : Nat) (h : i < n) : (rowF n f)[i]? = some (f i) := by simp [rowF, h]
theorem rowF_set (n : Nat) (f : Nat → Value) (i : Nat) (v : Value) : (rowF n f).set i v = rowF n (fun j => if j = i then v else f j) := by
  apply List.ext_getElem
  · simp [rowF]
  · intro j h1 h2
    simp only [rowF, List.getElem_set, List.getElem_map, List.getElem_range]
    by_cases h : i = j
    · simp [h]
    · simp [h, Ne.symm h]
theorem rowF_rep (n : Nat) (v : Value) : List.replicate n v = rowF n (fun _ => v) := by simp [rowF, List.map_const']
theorem rowF_congr {n : Nat} {f g : Nat → Value} (h : ∀ i, i < n → f i = g i) : rowF n f = rowF n g := List.map_congr_left (fun i hi => h i (List.mem_range.1 hi))

set_option maxRecDepth 100000 in
set_option maxHeartbeats 4000000 in
theorem eq_true (xa ya : Option Addr) (xc yc n : Nat) (f : Nat → Bool) (w : World) (hx : SB w xa n f) (hy : SB w ya n f) (hn : n ≤ 100000) :
    Calls Ybad.prog 8 #[.slice xa n xc, .slice ya n yc] w fun e w' => e = .returned (.bool true) ∧ Kp (fun _ => True) w w' := by
  have HX : Hid (SB w xa n f) := hx
  have HY : Hid (SB w ya n f) := hy
  clear hx hy
  go_enter Ybad.func8, Ybad.ntmps8
  go_wp2_with fail
  go_loopg [13] n (fun g i wr => ∃ k : Nat, k ≤ n ∧ g = n - k ∧ i = .int .i64 k ∧ Kp (fun _ => True) w wr)
  case atStart => exact ⟨0, Nat.zero_le _, rfl, rfl, Kp.refl _ _⟩
  case round =>
    obtain ⟨k, hk, rfl, rfl, hkp⟩ := hrel
    have HK : Hid (Kp (fun _ => True) w wr) := hkp
    clear hkp
    by_cases hlt : k < n
    · have hlt' : (k : Int) < (n : Int) := by omega
      obtain ⟨g1, rfl, h1⟩ := HX.out k hlt
      obtain ⟨g2, rfl, h2⟩ := HY.out k hlt
      have h1' := cell_kp HK.out h1 trivial
      have h2' := cell_kp HK.out h2 trivial
      clear h1 h2
      have hl1 := World.block_lt_of_cell? wr _ h1'
      have hl2 := World.block_lt_of_cell? wr _ h2'
      generalize f k = b at *
      go_wp2_with fail
      go_quiet (fail)
      go_wp2_with fail
      go_roundg (n - (k + 1))
      case measure => omega
      case rel => exact ⟨k + 1, hlt, rfl, by go_num, HK.out.drewN _⟩
    · obtain rfl : k = n := by omega
      go_wp2_with fail
      go_ret
      exact ⟨rfl, HK.out⟩

/-- What is expected of entry i. -/
def hasM (other : List Mem) (m : Mem) : Bool := other.any fun o => o.1 == m.1 && o.2 == m.2
def expB (ms other : List Mem) (i : Nat) : Bool := decide (3 ≤ i) && !(hasM other (ms.getD (i - 3) (0, 0)))
theorem has_take (other : List Mem) (m : Mem) (j : Nat) (hj : j < other.length) : hasM (other.take (j + 1)) m = (hasM (other.take j) m || ((other.getD j (0, 0)).1 == m.1 && (other.getD j (0, 0)).2 == m.2)) := by
  unfold hasM
  rw [List.take_add_one, List.any_append]
  simp [List.getD, List.getElem?_eq_getElem hj]
theorem info4 : (Ybad.prog.info? 4).map (fun i => (i.zero, i.size, i.bytes)) = some (some (.bool false), 1, 1) := by kernel_rfl
def outF (ms other : List Mem) (k : Nat) : Nat → Value := fun i => .bool (decide (i < 3 + k) && expB ms other i)
theorem outF_start (ms other : List Mem) (n : Nat) : rowF n (outF ms other 0) = List.replicate n (.bool false) := by
  rw [rowF_rep]
  refine rowF_congr fun i _ => ?_
  unfold outF expB
  by_cases h : i < 3 <;> simp [h] <;> omega
theorem outF_step (ms other : List Mem) (n k : Nat) (b : Bool) (hb : hasM other (ms.getD k (0, 0)) = b) : (rowF n (outF ms other k)).set (3 + k) (.bool (!b)) = rowF n (outF ms other (k + 1)) := by
  rw [rowF_set]
  refine rowF_congr fun i _ => ?_
  unfold outF expB
  by_cases h : i = 3 + k
  · subst h
    have e : 3 + k - 3 = k := by omega
    subst hb
    simp [e]
  · have e : decide (i < 3 + k) = decide (i < 3 + (k + 1)) := by
      by_cases h1 : i < 3 + k
      · simp [h1]; omega
      · simp [h1]; omega
    simp [h, e]
theorem outF_end (ms other : List Mem) (i : Nat) (hi : i < 3 + ms.length) : outF ms other ms.length i = .bool (expB ms other i) := by unfold outF; simp [hi]

set_option maxRecDepth 100000 in
set_option maxHeartbeats 8000000 in
theorem expect (xa ya : Option Addr) (xc yc : Nat) (ms other : List Mem) (w : World) (hx : SR w xa ms) (hy : SR w ya other) (hn : ms.length ≤ 1024) (hm : other.length ≤ 1024) (gx : Pl.Good ms) (gy : Pl.Good other) :
    Calls Ybad.prog 9 #[.slice xa ms.length xc, .slice ya other.length yc] w fun e w' => ∃ g, e = .returned (.slice (some ⟨g, 0, none⟩) (3 + ms.length) (3 + ms.length)) ∧ SB w' (some ⟨g, 0, none⟩) (3 + ms.length) (expB ms other) ∧ Kp (fun _ => True) w w' := by
  obtain ⟨i4, ti, tz0, tz1, tz2⟩ := info_parts info4
  have HX : Hid (SR w xa ms) := hx
  have HY : Hid (SR w ya other) := hy
  have GX : Hid (Pl.Good ms) := gx
  have GY : Hid (Pl.Good other) := gy
  clear hx hy gx gy
  go_enter Ybad.func9, Ybad.ntmps9
  go_wp2_with (first
    | (at_make; refine wpList_make_row _ rfl _ _ 29 rfl 4 i4 (.bool false) 1 Ybad.underlying29 ti tz0 tz1 tz2 rfl _ _ _ _ (3 + ms.length) rfl rfl ?a1 ?a2 ?a3 ?a4 ?_))
  case a1 => omega
  case a2 => omega
  case a3 => omega
  case a4 => unfold maxLen; omega
  intro w1 hrow hk1 hsz
  have HR : Hid (w1.heap[w.heap.size]? = some (.cells (rowF (3 + ms.length) (outF ms other 0)).toArray 4 (0, 0))) := by
    rw [Hid, outF_start]; simpa using hrow
  have HK1 : Hid (Kp (fun _ => True) w w1) := hk1
  clear hrow hk1
  generalize hG : w.heap.size = G at *
  go_wp2_with fail
  go_loopg [17] ms.length (fun g i wr => ∃ k : Nat, k ≤ ms.length ∧ g = ms.length - k ∧ i = .int .i64 k ∧ wr.heap[G]? = some (.cells (rowF (3 + ms.length) (outF ms other k)).toArray 4 (0, 0)) ∧ Kp (fun z => z ≠ G) w wr)
  case atStart => exact ⟨0, Nat.zero_le _, rfl, rfl, HR.out, HK1.out.mono (fun _ _ _ => trivial)⟩
  case round =>
    obtain ⟨k, hk, rfl, rfl, hrw, hkw⟩ := hrel
    obtain ⟨wo, rfl⟩ : ∃ wo, wo = wr := ⟨wr, rfl⟩
    have HRW : Hid (wo.heap[G]? = some (.cells (rowF (3 + ms.length) (outF ms other k)).toArray 4 (0, 0))) := hrw
    have HK : Hid (Kp (fun z => z ≠ G) w wo) := hkw
    clear hrw hkw
    by_cases hlt : k < ms.length
    · have hlt' : (k : Int) < (ms.length : Int) := by omega
      obtain ⟨g1, rfl, h0, h1⟩ := HX.out k hlt
      have hg1 : g1 < G := hG ▸ World.block_lt_of_cell? w _ h0
      have h0' := cell_kp HK.out h0 (show g1 ≠ G by omega)
      have h1' := cell_kp HK.out h1 (show g1 ≠ G by omega)
      have hgm := GX.out.lt (ms.getD k (0, 0)) (by rw [show ms.getD k (0, 0) = ms[k] by simp [List.getD, hlt]]; exact List.getElem_mem hlt)
      have HST := outF_step ms other (3 + ms.length) k
      have HST' : Hid (∀ b, hasM other (ms.getD k (0, 0)) = b → (rowF (3 + ms.length) (outF ms other k)).set (3 + k) (.bool (!b)) = rowF (3 + ms.length) (outF ms other (k + 1))) := HST
      clear HST h0 h1
      generalize ms.getD k (0, 0) = m at *
      have hl1 := World.block_lt_of_cell? wo _ h0'
      go_upto_region 5 with fail
      have ka : Hid (Kp (fun _ => True) wo (wo.alloc (.cells #[.string (nm m.1), .int .u8 (m.2 : Int)] 54))) := (Kp.refl _ _).alloc _
      have hb7 := heap_alloc_new wo (.cells #[.string (nm m.1), .int .u8 (m.2 : Int)] 54)
      have HB7 : Hid ((wo.alloc (.cells #[.string (nm m.1), .int .u8 (m.2 : Int)] 54)).heap[wo.heap.size]? = some (.cells #[.string (nm m.1), .int .u8 (m.2 : Int)] 54 (0, 0))) := hb7
      generalize wo.alloc (.cells #[.string (nm m.1), .int .u8 (m.2 : Int)] 54) = w2 at *
      have hGo : G < wo.heap.size := lt_of_row HRW.out
      generalize wo.heap.size = B7 at *
      clear hb7
      go_wp2_with fail
      go_loopg [8, 24] other.length (fun g dv i wr => ∃ j : Nat, j ≤ other.length ∧ g = other.length - j ∧ i = .int .i64 j ∧ dv = .bool (hasM (other.take j) m) ∧ Kp (fun _ => True) w2 wr)
      case atStart => exact ⟨0, Nat.zero_le _, rfl, rfl, rfl, Kp.refl _ _⟩
      case round =>
        obtain ⟨j, hj, rfl, rfl, rfl, hkj⟩ := hrel
        have HKJ : Hid (Kp (fun _ => True) w2 wr) := hkj
        clear hkj
        have b7 := HKJ.out.row HB7.out trivial
        obtain ⟨m0, m1⟩ := two_cells b7
        have hl7 := lt_of_row b7
        clear b7
        by_cases hjl : j < other.length
        · have hjl' : (j : Int) < (other.length : Int) := by omega
          obtain ⟨g2, rfl, k0, k1⟩ := HY.out j hjl
          have hg2 : g2 < G := hG ▸ World.block_lt_of_cell? w _ k0
          have k0' := cell_kp HKJ.out (cell_kp ka.out (cell_kp HK.out k0 (show g2 ≠ G by omega)) trivial) trivial
          have k1' := cell_kp HKJ.out (cell_kp ka.out (cell_kp HK.out k1 (show g2 ≠ G by omega)) trivial) trivial
          have hgo := GY.out.lt (other.getD j (0, 0)) (by rw [show other.getD j (0, 0) = other[j] by simp [List.getD, hjl]]; exact List.getElem_mem hjl)
          have hdt := has_take other m j hjl
          have hne := nm_eq (other.getD j (0, 0)).1 m.1 hgo.1 hgm.1
          have hlg := World.block_lt_of_cell? wr _ k0'
          have he2 : (((other.getD j (0, 0)).2 : Int) == (m.2 : Int)) = ((other.getD j (0, 0)).2 == m.2) := by
            rw [Bool.eq_iff_iff]; simp only [beq_iff_eq]; omega
          generalize other.getD j (0, 0) = mo at *
          clear k0 k1
          cases hmd : (mo.1 == m.1)
          · rw [hmd] at hne hdt
            have HDT : Hid (hasM (other.take (j + 1)) m = (hasM (other.take j) m || (false && mo.2 == m.2))) := hdt
            clear hdt he2
            go_wp2_with fail
            go_roundg (other.length - (j + 1))
            case measure => omega
            case rel => exact ⟨j + 1, hjl, rfl, by go_num, by rw [HDT.out, Bool.false_and, Bool.or_false], HKJ.out.alloc _⟩
          · cases hme : (mo.2 == m.2)
            · rw [hmd, hme] at hdt
              rw [hmd] at hne
              rw [hme] at he2
              have HDT : Hid (hasM (other.take (j + 1)) m = (hasM (other.take j) m || (true && false))) := hdt
              clear hdt
              go_wp2_with fail
              go_roundg (other.length - (j + 1))
              case measure => omega
              case rel => exact ⟨j + 1, hjl, rfl, by go_num, by rw [HDT.out, Bool.and_false, Bool.or_false], HKJ.out.alloc _⟩
            · rw [hmd, hme] at hdt
              rw [hmd] at hne
              rw [hme] at he2
              have HDT : Hid (hasM (other.take (j + 1)) m = (hasM (other.take j) m || (true && true))) := hdt
              clear hdt
              go_wp2_with fail
              go_roundg (other.length - (j + 1))
              case measure => omega
              case rel => exact ⟨j + 1, hjl, rfl, by go_num, by rw [HDT.out, Bool.and_self, Bool.or_true], HKJ.out.alloc _⟩
        · obtain rfl : j = other.length := by omega
          rw [List.take_length]
          have hst := HST'.out _ rfl
          generalize hasM other m = hb at *
          have hrow := (ka.out.trans HKJ.out).row HRW.out trivial
          have hGl := lt_of_row hrow
          have hcG : wr.cell? ⟨G, 3 + k, none⟩ = some (outF ms other k (3 + k)) := by
            rw [cell_of_row wr G (3 + k) _ 4 (0, 0) hrow]; simpa using rowF_get _ (outF ms other k) (3 + k) (by omega)
          have hfG := frozen_of_row wr G (3 + k) _ 4 hrow
          have HRR : Hid (wr.heap[G]? = some (.cells (rowF (3 + ms.length) (outF ms other k)).toArray 4 (0, 0))) := hrow
          have HKR : Hid (Kp (fun z => z ≠ G) w wr) := HK.out.trans ((ka.out.trans HKJ.out).mono (fun _ _ _ => trivial))
          have HSS : Hid ((rowF (3 + ms.length) (outF ms other k)).set (3 + k) (.bool (!hb)) = rowF (3 + ms.length) (outF ms other (k + 1))) := hst
          clear hrow hst HST' ka HKJ HRW HB7
          go_wp2_with fail
          go_roundg (ms.length - (k + 1))
          case measure => omega
          case rel =>
            refine ⟨k + 1, hlt, rfl, by go_num, ?_, HKR.out.setCell (by simp) _⟩
            rw [← HSS.out]
            exact set_row HRR.out (3 + k) (.bool (!hb))
    · obtain rfl : k = ms.length := by omega
      go_wp2_with fail
      go_ret
      refine ⟨_, rfl, fun i hi => ⟨_, rfl, ?_⟩, ⟨HK.out.os, HK.out.tape, HK.out.output, HK.out.size, fun z hz _ => HK.out.block z hz (by omega)⟩⟩
      rw [cell_of_row wo G i _ 4 (0, 0) HRW.out]
      simpa [outF_end ms other i hi] using rowF_get _ (outF ms other ms.length) i hi
end Go.Proofs.YbulkawhcDoor.Me
