import Derived.Test.YbulkawhcDoorRows
import Derived.Test.YbulkawhcDoorLaws
import Derived.Test.YbulkawhcDoorPlain
import Derived.ProofKit
import Derived.WalkSpells
import Derived.WalkLawsBesides
import Derived.Deep.CutBlock
import Derived.Deep.DeepCutAuto
import Derived.Deep.LoopGhost
import Derived.Laws.IdiomStrings
namespace Go.Proofs.YbulkawhcDoor.Me
open Go.ChangeShapes Go.WideShapes Go.ChangeAt Go.RowKit Go.Proofs.YbulkawhcDoor.Lw Go.Proofs.YbulkawhcDoor Go.Proofs.YbulkawhcDoor.Pl

theorem info54 : (Ybad.prog.info? 54).map (fun i => (i.zero, i.size, i.bytes)) = some (some (.agg #[.string ⟨#[]⟩, .int .u8 0]), 2, 24) := by kernel_rfl
/-- A slice of numbers that came in. -/
def ArgI (w : World) (ao : Option Addr) (xs : List Int) : Prop := ∀ i, i < xs.length → ∃ b off, ao = some ⟨b, off, none⟩ ∧ w.cell? ⟨b, off + i, none⟩ = some (.int .u8 (xs.getD i 0))
theorem argI_below {w w1 : World} {ao : Option Addr} {xs : List Int} (h : ArgI w ao xs) (hb : Below w.heap.size w w1) : ArgI w1 ao xs := fun i hi => by
  obtain ⟨b, off, e, hc⟩ := h i hi
  exact ⟨b, off, e, (hb.cell (p := ⟨b, off + i, none⟩) (World.block_lt_of_cell? w _ hc)).trans hc⟩
def mcells (m : Mem) : List Value := [.string (nm m.1), .int .u8 (m.2 : Int)]
def mrow (ms : List Mem) : List Value := ms.flatMap mcells
theorem mrow_len (ms : List Mem) : (mrow ms).length = ms.length * 2 := by
  induction ms with
  | nil => rfl
  | cons t ts ih => simp only [mrow, List.flatMap_cons, List.length_append] at ih ⊢; rw [ih]; simp [mcells]; omega
theorem mrow_get (ms : List Mem) : ∀ i, i < ms.length → (mrow ms)[i * 2]? = some (.string (nm (ms.getD i (0, 0)).1)) ∧ (mrow ms)[i * 2 + 1]? = some (.int .u8 ((ms.getD i (0, 0)).2 : Int)) := by
  induction ms with
  | nil => intro i hi; simp at hi
  | cons t ts ih =>
    intro i hi
    cases i with
    | zero => simp [mrow, mcells]
    | succ i =>
      have := ih i (by simpa using hi)
      simp only [mrow, List.flatMap_cons, mcells, List.getD_cons_succ] at this ⊢
      refine ⟨?_, ?_⟩
      · rw [List.getElem?_append_right (by simp; omega)]; simpa [show (i + 1) * 2 - 2 = i * 2 by omega] using this.1
      · rw [List.getElem?_append_right (by simp; omega)]; simpa [show (i + 1) * 2 + 1 - 2 = i * 2 + 1 by omega] using this.2
/-- A slice of members, laid by the call. -/
structure MS (w wr : World) (tv : Value) (ms : List Mem) : Prop where
  own : wr.ownsRow w.heap.size 54 2 tv ms.length (mrow ms)
  bel : Below w.heap.size w wr
theorem ms_kp {w wr w1 : World} {tv : Value} {ms : List Mem} (h : MS w wr tv ms) (hk : Kp (fun _ => True) wr w1) : MS w w1 tv ms :=
  ⟨own_kp h.own hk (fun _ _ => trivial), h.bel.trans (hk.below h.bel.size (fun _ _ => trivial))⟩
theorem own_cells {w : World} {base e s n : Nat} {v : Value} {xs : List Value} (h : w.ownsRow base e s v n xs) :
    ∃ ua cap, v = .slice ua n cap ∧ ∀ j u, xs[j]? = some u → ∃ g, ua = some ⟨g, 0, none⟩ ∧ base ≤ g ∧ g < w.heap.size ∧ w.cell? ⟨g, j, none⟩ = some u := by
  have h' := h
  rcases h.2 with ⟨hv, h0⟩ | ⟨g, cap, cur, hv, hg, hh, _⟩
  · refine ⟨none, 0, by rw [hv, h0], fun j u hj => ?_⟩
    have := h.1
    rw [h0] at this
    have e : xs = [] := List.eq_nil_of_length_eq_zero (by simpa using this)
    rw [e] at hj
    simp at hj
  · refine ⟨_, cap, hv, fun j u hj => ⟨g, rfl, hg, lt_of_row hh, ?_⟩⟩
    have := h'.cells (g := g) (by rw [hv]; rfl) j u hj
    rw [Addr.add_lit] at this
    simpa using this
theorem cells2 (w : World) (x y : Value) (t : TypeId) : ∀ j u, [x, y][j]? = some u → (w.alloc (.cells #[x, y] t)).cell? ((⟨w.heap.size, 0, none⟩ : Addr).add j) = some u := by
  intro j u hj
  rw [Addr.add_lit, cell_of_row _ _ _ _ t (0, 0) (heap_alloc_new w _)]
  simpa using hj
theorem one2 (s : ByteArray) (n : Int) : ∀ u ∈ [Value.string s, .int .u8 n], u.oneCell' = true := by
  intro u hu; simp at hu; rcases hu with rfl | rfl <;> rfl
theorem two_cells {w : World} {g : Nat} {x y : Value} {t : TypeId} (h : w.heap[g]? = some (.cells #[x, y] t (0, 0))) : w.cell? ⟨g, 0, none⟩ = some x ∧ w.cell? ⟨g, 1, none⟩ = some y :=
  ⟨by rw [cell_of_row w g 0 _ t (0, 0) h]; rfl, by rw [cell_of_row w g 1 _ t (0, 0) h]; rfl⟩
theorem ms_app {w wr w1 : World} {tv v' : Value} {ms : List Mem} (h : MS w wr tv ms) (m : Mem) (o : Obj) (hg : (wr.alloc o).grownBy w1 tv.ownBlock)
    (hown : w1.ownsRow w.heap.size 54 2 v' (ms.length + 1) (mrow ms ++ mcells m)) : MS w w1 v' (ms ++ [m]) := by
  refine ⟨?_, h.bel.trans ((((Kp.refl (fun k => some k ≠ tv.ownBlock) wr).alloc o).trans (Kp.ofGrown hg)).below h.bel.size (fun k hk e => by have := (own_lt h.own e.symm).1; omega))⟩
  have e : mrow (ms ++ [m]) = mrow ms ++ mcells m := by simp [mrow]
  rw [e, List.length_append]; exact hown

/-- string([]byte{x, y}). -/
theorem conv2 (w : World) (a b : Int) (x y : UInt8) (hx : (x.toNat : Int) = a) (hy : (y.toNat : Int) = b) :
    (convert 22 9 (.slice (some ⟨w.heap.size, 0, none⟩) 2 2)).run Ybad.prog (w.alloc (.cells #[.int .u8 a, .int .u8 b] 5)) = .ok (.string ⟨#[x, y]⟩) (w.alloc (.cells #[.int .u8 a, .int .u8 b] 5)) := by
  subst hx hy
  exact run_convert_bytes_back (l := [x, y]) _ 22 9 5 ⟨w.heap.size, 0, none⟩ 2 Ybad.underlying22 Ybad.underlying5 Ybad.underlying9 (fun j hj => by
    rw [Addr.add_lit, cell_of_row _ _ _ _ 5 (0, 0) (heap_alloc_new w _)]
    match j, hj with
    | 0, _ => rfl
    | 1, _ => rfl)

set_option maxRecDepth 100000 in
set_option maxHeartbeats 8000000 in
theorem members (ao : Option Addr) (cap : Nat) (xs : List Int) (w : World) (h : ArgI w ao xs) (hl : xs.length ≤ 1024) (hb : ∀ i, 0 ≤ xs.getD i 0 ∧ xs.getD i 0 ≤ 255) :
    Calls Ybad.prog 5 #[.slice ao xs.length cap] w fun e w' => ∃ tv, e = .returned tv ∧ MS w w' tv (mems xs xs.length) := by
  obtain ⟨i54, ti, tz0, tz1, tz2⟩ := info_parts info54
  have HI : Hid (ArgI w ao xs) := h
  have HB : Hid (∀ i, 0 ≤ xs.getD i 0 ∧ xs.getD i 0 ≤ 255) := hb
  clear h hb
  go_enter Ybad.func5, Ybad.ntmps5
  go_wp2_with fail
  go_loopg [3, 12] xs.length (fun g tv i wr => ∃ k : Nat, k ≤ xs.length ∧ g = xs.length - k ∧ i = .int .i64 k ∧ MS w wr tv (mems xs k))
  case atStart => exact ⟨0, Nat.zero_le _, rfl, rfl, ⟨World.ownsRow_nil _ _ _ _, Below.refl _ _⟩⟩
  case round =>
    obtain ⟨k, hk, rfl, rfl, M⟩ := hrel
    obtain ⟨wo, rfl⟩ : ∃ wo, wo = wr := ⟨wr, rfl⟩
    have HM : Hid (MS w wo u3 (mems xs k)) := M
    clear M
    by_cases hlt : k < xs.length
    · obtain ⟨pb, poff, rfl, hpc⟩ := argI_below HI.out HM.out.bel k hlt
      obtain ⟨hx0, hx1⟩ := HB.out k
      have HS : Hid (mems xs (k + 1) = stepM (mems xs k) (memOf (xs.getD k 0))) := rfl
      generalize xs.getD k 0 = x at hpc hx0 hx1 HS
      have hlt' : (k : Int) < (xs.length : Int) := by omega
      obtain ⟨d, hd⟩ := Int.eq_ofNat_of_zero_le (Int.emod_nonneg x (show (8 : Int) ≠ 0 by omega))
      have hd8 : d < 8 := by have := Int.emod_lt_of_pos x (show (0 : Int) < 8 by omega); omega
      obtain ⟨e, he⟩ := Int.eq_ofNat_of_zero_le (Int.emod_nonneg (x / 8) (show (8 : Int) ≠ 0 by omega))
      have he8 : e < 8 := by have := Int.emod_lt_of_pos (x / 8) (show (0 : Int) < 8 by omega); omega
      have hmo : memOf x = (d, e) := by unfold memOf; rw [hd, he]; rfl
      rw [hmo] at HS
      clear hmo
      go_upto_region 5 with fail
      go_cut [6] (fun v wx => v = .string (nm d) ∧ Kp (fun _ => True) wo wx)
      case first =>
        have hc : d = 0 ∨ d = 1 ∨ d = 2 ∨ d = 3 ∨ d = 4 ∨ d = 5 ∨ d = 6 ∨ d = 7 := by omega
        rcases hc with rfl | rfl | rfl | rfl | rfl | rfl | rfl | rfl
        all_goals
          have hcv0 := conv2 wo 109 48 109 48 rfl rfl
          have hcv1 := conv2 wo 109 49 109 49 rfl rfl
          have hcv2 := conv2 wo 109 50 109 50 rfl rfl
          have hcv3 := conv2 wo 109 51 109 51 rfl rfl
          have hcv4 := conv2 wo 109 52 109 52 rfl rfl
          have hcv5 := conv2 wo 109 53 109 53 rfl rfl
          have hcv6 := conv2 wo 109 54 109 54 rfl rfl
          have hcv7 := conv2 wo 109 55 109 55 rfl rfl
          go_wp2_with fail
          go_meet
          case rel => exact ⟨rfl, (Kp.refl _ _).alloc _⟩
      case rest =>
        obtain ⟨rfl, hkc⟩ := hcut
        have HM2 : Hid (MS w wc u3 (mems xs k)) := ms_kp HM.out hkc
        clear HM hkc
        have HG : Hid (Pl.Good (mems xs k)) := mems_good xs k
        have HL : Hid ((mems xs k).length ≤ k) := mems_len xs k
        generalize mems xs k = ms at *
        have hms : ms.length ≤ 1024 := by have := HL.out; omega
        obtain ⟨ua, ucap, rfl, huc⟩ := own_cells HM2.out.own
        have HU : Hid (∀ j u, (mrow ms)[j]? = some u → ∃ g, ua = some ⟨g, 0, none⟩ ∧ w.heap.size ≤ g ∧ g < wc.heap.size ∧ wc.cell? ⟨g, j, none⟩ = some u) := huc
        clear huc
        obtain ⟨wd, rfl⟩ : ∃ wd, wd = wc := ⟨wc, rfl⟩
        go_wp2_with fail
        go_loopg [7, 23] ms.length (fun g dv i wr => ∃ j : Nat, j ≤ ms.length ∧ g = ms.length - j ∧ i = .int .i64 j ∧ dv = .bool (dup (ms.take j) d) ∧ Kp (fun _ => True) wd wr)
        case atStart => exact ⟨0, Nat.zero_le _, rfl, rfl, rfl, Kp.refl _ _⟩
        case round =>
          obtain ⟨j, hj, rfl, rfl, rfl, hkj⟩ := hrel
          have HK : Hid (Kp (fun _ => True) wd wr) := hkj
          clear hkj
          by_cases hjl : j < ms.length
          · have hjl' : (j : Int) < (ms.length : Int) := by omega
            obtain ⟨c0, c1⟩ := mrow_get ms j hjl
            obtain ⟨g, rfl, hgw, hgl, h0⟩ := HU.out _ _ c0
            obtain ⟨g', eg, _, _, h1⟩ := HU.out _ _ c1
            obtain rfl : g = g' := by simpa using eg
            have h0' := cell_kp HK.out h0 trivial
            have h1' := cell_kp HK.out h1 trivial
            have hml := HG.out.lt (ms.getD j (0, 0)) (by rw [show ms.getD j (0, 0) = ms[j] by simp [List.getD, hjl]]; exact List.getElem_mem hjl)
            have hdt := dup_take ms d j hjl
            have hne := nm_eq (ms.getD j (0, 0)).1 d hml.1 hd8
            have hlg := World.block_lt_of_cell? wr _ h0'
            generalize ms.getD j (0, 0) = m at *
            clear c0 c1 eg h0 h1
            cases hmd : (m.1 == d)
            · rw [hmd] at hne hdt
              have HDT : Hid (dup (ms.take (j + 1)) d = (dup (ms.take j) d || false)) := hdt
              clear hdt
              go_wp2_with fail
              go_roundg (ms.length - (j + 1))
              case measure => omega
              case rel => exact ⟨j + 1, hjl, rfl, by go_num, by rw [HDT.out, Bool.or_false], HK.out.alloc _⟩
            · rw [hmd] at hne hdt
              have HDT : Hid (dup (ms.take (j + 1)) d = (dup (ms.take j) d || true)) := hdt
              clear hdt
              go_wp2_with fail
              go_roundg (ms.length - (j + 1))
              case measure => omega
              case rel => exact ⟨j + 1, hjl, rfl, by go_num, by rw [HDT.out, Bool.or_true], HK.out.alloc _⟩
          · obtain rfl : j = ms.length := by omega
            rw [List.take_length]
            have HM3 : Hid (MS w wr (.slice ua ms.length ucap) ms) := ms_kp HM2.out HK.out
            clear HM2 HK HU
            cases hdu : dup ms d
            · have HD : Hid (stepM ms (d, e) = ms ++ [(d, e)]) := by unfold Hid stepM; rw [if_neg (by simp [hdu])]
              clear hdu
              go_wp2_with (first
                | (at_builtin; refine wpList_append_lies _ rfl _ _ 24 rfl w.heap.size 54 i54 (.agg #[.string ⟨#[]⟩, .int .u8 0]) 2 24 Ybad.underlying24 ti tz0 tz1 tz2 rfl (by decide) _ ms.length (mrow ms) rfl (HM3.out.own.alloc _) ⟨wr.heap.size, 0, none⟩ 1 1 [.string (nm d), .int .u8 (e : Int)] rfl rfl (cells2 _ _ _ _) (one2 _ _) (by omega) ?c3 ?c4 ?c5 (wr.heap.size + 1) ?c6 ?_))
              case c3 => have := HL.out; unfold maxLen; omega
              case c4 => have := HL.out; omega
              case c5 => have := HM3.out.bel.size; simp; omega
              case c6 => simp
              intro g cap2 w5 hown hgrow hat hlt1
              have M5 : Hid (MS w w5 (.slice (some ⟨g, 0, none⟩) (ms.length + 1) cap2) (ms ++ [(d, e)])) := ms_app HM3.out (d, e) _ hgrow hown
              clear hown hgrow hat hlt1
              go_wp2_with fail
              go_roundg (xs.length - (k + 1))
              case measure => omega
              case rel => exact ⟨k + 1, hlt, rfl, by go_num, by rw [HS.out, HD.out]; exact M5.out⟩
            · have HD : Hid (stepM ms (d, e) = ms) := by unfold Hid stepM; rw [if_pos hdu]
              clear hdu
              go_wp2_with fail
              go_roundg (xs.length - (k + 1))
              case measure => omega
              case rel => exact ⟨k + 1, hlt, rfl, by go_num, by rw [HS.out, HD.out]; exact HM3.out⟩
    · obtain rfl : k = xs.length := by omega
      go_wp2_with fail
      go_ret
      exact ⟨_, rfl, HM.out⟩
end Go.Proofs.YbulkawhcDoor.Me
