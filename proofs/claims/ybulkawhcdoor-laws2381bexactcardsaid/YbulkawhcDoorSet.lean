import Derived.Test.YbulkawhcDoorEq
import Derived.Maps.OwnOps
import Derived.Maps.OwnSet
import Derived.Maps.RangeWalk
import Derived.Maps.Views
namespace Go.Proofs.YbulkawhcDoor.Se
open Go.ChangeShapes Go.WideShapes Go.ChangeAt Go.RowKit Go.Maps Go.Proofs.YbulkawhcDoor.Lw Go.Proofs.YbulkawhcDoor Go.Proofs.YbulkawhcDoor.Pl

/-- What a closure over (namespace, id) sees: the classes xs that entry i names. -/
structure Side (w : World) (xa xi : Nat) (xs : List Nat) (Pb off E ecap n L i : Nat) (la : Option Addr) (lc : Nat) : Prop where
  av : w.cell? ⟨xa, 0, none⟩ = some (.pointer (some ⟨Pb, off, none⟩))
  ix : w.cell? ⟨xi, 0, none⟩ = some (.int .i64 (i : Int))
  e : w.cell? ⟨Pb, off + 1, none⟩ = some (.slice (some ⟨E, 0, none⟩) n ecap)
  l : w.cell? ⟨Pb, off + 3, none⟩ = some (.slice (some ⟨L, 0, none⟩) n n)
  n3 : 3 ≤ n
  nl : n ≤ 10000
  il : i < n
  li : w.cell? ⟨L, i, none⟩ = some (.slice la xs.length lc)
  xl : ∀ k, k < xs.length → ∃ g, la = some ⟨g, 0, none⟩ ∧ w.cell? ⟨g, k, none⟩ = some (.int .i64 (xs.getD k 0 : Int))
  x3 : ∀ k, k < xs.length → xs.getD k 0 < 3
  xn : xs.length ≤ 3
  es : ∀ k, k < 3 → w.cell? ⟨E, k * 4, none⟩ = some (.string (kn k))
theorem side_kp {w w1 : World} {xa xi : Nat} {xs : List Nat} {Pb off E ecap n L i : Nat} {la : Option Addr} {lc : Nat} (h : Side w xa xi xs Pb off E ecap n L i la lc) (hk : Kp (fun _ => True) w w1) : Side w1 xa xi xs Pb off E ecap n L i la lc :=
  ⟨cell_kp hk h.av trivial, cell_kp hk h.ix trivial, cell_kp hk h.e trivial, cell_kp hk h.l trivial, h.n3, h.nl, h.il, cell_kp hk h.li trivial, fun k hk' => by
    obtain ⟨g, e, hc⟩ := h.xl k hk'
    exact ⟨g, e, cell_kp hk hc trivial⟩, h.x3, h.xn, fun k hk' => cell_kp hk (h.es k hk') trivial⟩

set_option maxRecDepth 100000 in
set_option maxHeartbeats 4000000 in
theorem clos13 (w : World) (xa xi : Nat) (xs : List Nat) (Pb off E ecap n L i : Nat) (la : Option Addr) (lc : Nat) (h : Side w xa xi xs Pb off E ecap n L i la lc) (k : Nat) (hk : k < xs.length) :
    Calls Ybad.prog 13 #[.int .i64 (k : Int), .pointer (some ⟨xa, 0, none⟩), .pointer (some ⟨xi, 0, none⟩)] w fun e w' => e = .returned (.string (kn (xs.getD k 0))) ∧ Kp (fun _ => True) w w' := by
  obtain ⟨ha, hi, he, hl, h3, hnl, hil, hli, hxl, hx3, hxn, hes⟩ := h
  obtain ⟨g, rfl, hg⟩ := hxl k hk
  have hx := hx3 k hk
  have hc := hes _ hx
  clear hxl hx3 hes
  generalize xs.getD k 0 = x at *
  have b1 := World.block_lt_of_cell? w _ ha
  have b2 := World.block_lt_of_cell? w _ hi
  have b3 := World.block_lt_of_cell? w _ he
  have b4 := World.block_lt_of_cell? w _ hli
  have b5 := World.block_lt_of_cell? w _ hg
  have b6 := World.block_lt_of_cell? w _ hc
  have i1 : (i : Int) < (n : Int) := by omega
  have i2 : (k : Int) < (xs.length : Int) := by omega
  have i3 : (x : Int) < (n : Int) := by omega
  go_enter Ybad.func13, Ybad.ntmps13
  go_wp2_with fail
  go_quiet (fail)
  go_wp2_with fail
  go_ret
  exact ⟨rfl, (Kp.refl _ _).drewN _⟩

set_option maxRecDepth 100000 in
set_option maxHeartbeats 4000000 in
theorem clos14 (w : World) (xa xi : Nat) (xs : List Nat) (Pb off E ecap n L i : Nat) (la : Option Addr) (lc : Nat) (h : Side w xa xi xs Pb off E ecap n L i la lc) (k : Nat) (hk : k < xs.length) :
    Calls Ybad.prog 14 #[.int .i64 (k : Int), .pointer (some ⟨xa, 0, none⟩), .pointer (some ⟨xi, 0, none⟩)] w fun e w' => e = .returned (.string (kn (xs.getD k 0))) ∧ Kp (fun _ => True) w w' := by
  obtain ⟨ha, hi, he, hl, h3, hnl, hil, hli, hxl, hx3, hxn, hes⟩ := h
  obtain ⟨g, rfl, hg⟩ := hxl k hk
  have hx := hx3 k hk
  have hc := hes _ hx
  clear hxl hx3 hes
  generalize xs.getD k 0 = x at *
  have b1 := World.block_lt_of_cell? w _ ha
  have b2 := World.block_lt_of_cell? w _ hi
  have b3 := World.block_lt_of_cell? w _ he
  have b4 := World.block_lt_of_cell? w _ hli
  have b5 := World.block_lt_of_cell? w _ hg
  have b6 := World.block_lt_of_cell? w _ hc
  have i1 : (i : Int) < (n : Int) := by omega
  have i2 : (k : Int) < (xs.length : Int) := by omega
  have i3 : (x : Int) < (n : Int) := by omega
  go_enter Ybad.func14, Ybad.ntmps14
  go_wp2_with fail
  go_quiet (fail)
  go_wp2_with fail
  go_ret
  exact ⟨rfl, (Kp.refl _ _).drewN _⟩

theorem law9 : Keyed Ybad.prog 9 := string_keyed Ybad.underlying9
theorem zero5 (w : World) : (zeroValue 5).run Ybad.prog w = .ok (.int .u8 0) w := by kernel_rfl
def klx (x : Nat) : Lit := .string (kn x).data.toList
theorem key_kn (x : Nat) : keyOf Ybad.prog 9 (.string (kn x)) = some (klx x) := WideMaps.keyOf_string_mk Ybad.underlying9 (by unfold maxLen kn; split <;> decide)
theorem klx_ne (x y : Nat) (hx : x < 3) (hy : y < 3) (h : x ≠ y) : klx x ≠ klx y := by
  have h' : ∀ a b : Fin 3, a ≠ b → (kn a).data.toList ≠ (kn b).data.toList := by decide +kernel
  intro e
  simp only [klx, Lit.string.injEq] at e
  exact h' ⟨x, hx⟩ ⟨y, hy⟩ (by simpa using h) e

/-- The sets are the same. -/
def sameS (xs ys : List Nat) : Bool := (List.range 3).all fun x => xs.contains x == ys.contains x
theorem sameS_true {xs ys : List Nat} (h : ∀ x, x < 3 → xs.contains x = ys.contains x) : sameS xs ys = true := by
  unfold sameS
  rw [List.all_eq_true]
  intro x hx
  rw [h x (List.mem_range.1 hx)]
  simp
theorem sameS_false {xs ys : List Nat} {x : Nat} (hx : x < 3) (h : xs.contains x ≠ ys.contains x) : sameS xs ys = false := by
  rw [Bool.eq_false_iff]
  intro he
  unfold sameS at he
  rw [List.all_eq_true] at he
  have := he x (List.mem_range.2 hx)
  exact h (by simpa using this)
def valS (xs ys : List Nat) (x : Nat) : Int := if xs.contains x then (if ys.contains x then 3 else 1) else (if ys.contains x then 2 else 0)
/-- What the map holds. -/
structure St (D : DataW Unit) (xs ys : List Nat) : Prop where
  mp : IsMap D
  ky : ∀ kl, Maps.has D kl = true → ∃ x, x < 3 ∧ kl = klx x
  vl : ∀ x, x < 3 → D.atKey (klx x) (.lit (.int .u8 0)) = .lit (.int .u8 (valS xs ys x))
  hs : ∀ x, x < 3 → Maps.has D (klx x) = (xs.contains x || ys.contains x)
theorem klx_key (x : Nat) : WideAt.IsKeyLit (klx x) := trivial
theorem st_start : St (.map []) [] [] := ⟨isMap_empty, fun kl h => by simp [Maps.has] at h, fun x _ => by simp [DataW.atKey, valS], fun x _ => by simp [Maps.has]⟩
theorem contains_snoc (xs : List Nat) (x y : Nat) : (xs ++ [x]).contains y = (xs.contains y || y == x) := by
  rw [Bool.eq_iff_iff]; simp
theorem st_put {D : DataW Unit} {xs ys xs' ys' : List Nat} (h : St D xs ys) (x : Nat) (hx : x < 3) (v : Int) (hv : valS xs' ys' x = v) (hc : (xs'.contains x || ys'.contains x) = true)
    (ho : ∀ y, y < 3 → y ≠ x → xs'.contains y = xs.contains y ∧ ys'.contains y = ys.contains y) : St (D.put (klx x) (.lit (.int .u8 v))) xs' ys' := by
  refine ⟨h.mp.put _ _, fun kl hk => ?_, fun y hy => ?_, fun y hy => ?_⟩
  · by_cases e : kl = klx x
    · exact ⟨x, hx, e⟩
    · rw [has_put_other e] at hk
      exact h.ky kl hk
  · by_cases e : y = x
    · subst e
      rw [atKey_put_same h.mp (klx_key _), hv]
    · rw [atKey_put_other (klx_ne y x hy hx e), h.vl y hy]
      obtain ⟨h1, h2⟩ := ho y hy e
      unfold valS
      rw [h1, h2]
  · by_cases e : y = x
    · subst e
      rw [has_put_same h.mp (klx_key _), hc]
    · rw [has_put_other (klx_ne y x hy hx e), h.hs y hy]
      obtain ⟨h1, h2⟩ := ho y hy e
      rw [h1, h2]

theorem key_str {key : Value} {kl : Lit} (h : keyOf Ybad.prog 9 key = some kl) : ∃ s, key = .string s := by
  cases key <;> simp [keyOf, Ybad.underlying9, mapKey] at h
  exact ⟨_, rfl⟩
theorem own_map_kp {w w1 : World} {k b n : Nat} {R : Value → Option (DataW Unit × List MemPlace)} {D : DataW Unit} (h : w.ownsMap Ybad.prog k R b n D) (hk : Kp (fun _ => True) w w1) : w1.ownsMap Ybad.prog k R b n D :=
  h.kept (row := none) ⟨hk.os, hk.tape, hk.output, hk.size, fun i hi _ => hk.block i hi trivial⟩ (by simp)
theorem kp_grow {w wr w1 : World} {M : Nat} (h : Kp (fun _ => True) w wr) (hg : wr.grownBy w1 (some M)) (hM : w.heap.size ≤ M) : Kp (fun _ => True) w w1 :=
  ⟨hg.os.trans h.os, hg.tape.trans h.tape, hg.output.trans h.output, Nat.le_trans h.size hg.size, fun i hi _ => (hg.block i (Nat.lt_of_lt_of_le hi h.size) (fun e => by simp at e; omega)).trans (h.block i hi trivial)⟩

set_option maxRecDepth 100000 in
set_option maxHeartbeats 8000000 in
theorem sameSet (w : World) (xa xi : Nat) (xs : List Nat) (Pb off E ecap n L i : Nat) (la : Option Addr) (lc : Nat) (hx : Side w xa xi xs Pb off E ecap n L i la lc)
    (ya yi : Nat) (ys : List Nat) (Pb' off' E' ecap' n' L' i' : Nat) (la' : Option Addr) (lc' : Nat) (hy : Side w ya yi ys Pb' off' E' ecap' n' L' i' la' lc') :
    Calls Ybad.prog 12 #[.int .i64 (xs.length : Int), .func (.func 13) #[] #[.pointer (some ⟨xa, 0, none⟩), .pointer (some ⟨xi, 0, none⟩)], .int .i64 (ys.length : Int), .func (.func 14) #[] #[.pointer (some ⟨ya, 0, none⟩), .pointer (some ⟨yi, 0, none⟩)]] w
      fun e w' => e = .returned (.bool (sameS xs ys)) ∧ Kp (fun _ => True) w w' := by
  have HX : Hid (Side w xa xi xs Pb off E ecap n L i la lc) := hx
  have HY : Hid (Side w ya yi ys Pb' off' E' ecap' n' L' i' la' lc') := hy
  have hxn := hx.xn
  have hyn := hy.xn
  clear hx hy
  have hmm := @run_makeMap Ybad.prog
  go_enter Ybad.func12, Ybad.ntmps12
  go_upto_if 17 with fail
  go_cut [9] (fun _ wx => Kp (fun _ => True) w wx)
  case first =>
    by_cases hnm : xs.length = ys.length
    · have hnm' : ((xs.length : Int) == (ys.length : Int)) = true := by simp [hnm]
      have HNM : Hid (xs.length = ys.length) := hnm
      clear hnm
      simp only [hnm']
      go_wp2_with fail
      go_loopg [9] xs.length (fun g iv wr => ∃ k : Nat, k ≤ xs.length ∧ g = xs.length - k ∧ iv = .int .i64 k ∧ (∀ j, j < k → xs.getD j 0 = ys.getD j 0) ∧ Kp (fun _ => True) w wr)
      case atStart => exact ⟨0, Nat.zero_le _, rfl, rfl, fun j hj => absurd hj (by omega), Kp.refl _ _⟩
      case round =>
        obtain ⟨k, hk, rfl, rfl, hag, hkp⟩ := hrel
        have HAG : Hid (∀ j, j < k → xs.getD j 0 = ys.getD j 0) := hag
        have HK : Hid (Kp (fun _ => True) w wr) := hkp
        clear hag hkp
        by_cases hlt : k < xs.length
        · have hlt' : (k : Int) < (xs.length : Int) := by omega
          obtain ⟨x, hx⟩ : ∃ x, x = xs.getD k 0 := ⟨_, rfl⟩
          obtain ⟨y, hy⟩ : ∃ y, y = ys.getD k 0 := ⟨_, rfl⟩
          have hne := kn_eq (xs.getD k 0) (ys.getD k 0) (HX.out.x3 k hlt) (HY.out.x3 k (by have := HNM.out; omega))
          have c13 := clos13 _ xa xi xs Pb off E ecap n L i la lc (side_kp HX.out HK.out) k hlt
          rw [← hx] at c13 hne
          rw [← hy] at hne
          have HXE : Hid (x = xs.getD k 0 ∧ y = ys.getD k 0) := ⟨hx, hy⟩
          clear hx hy
          go_wp2_with fail
          refine c13.mono ?_
          clear c13
          rintro e w1 ⟨rfl, hk1⟩
          have HK1 : Hid (Kp (fun _ => True) w w1) := HK.out.trans hk1
          clear hk1
          go_wp2_with fail
          have c14 := clos14 _ ya yi ys Pb' off' E' ecap' n' L' i' la' lc' (side_kp HY.out HK1.out) k (by have := HNM.out; omega)
          rw [← HXE.out.2] at c14
          refine c14.mono ?_
          clear c14
          rintro e w2 ⟨rfl, hk2⟩
          have HK2 : Hid (Kp (fun _ => True) w w2) := HK1.out.trans hk2
          clear hk2
          cases hxy : (x == y)
          · rw [hxy] at hne
            clear hxy
            have hkn : ((k : Int) == (xs.length : Int)) = false := beq_eq_false_iff_ne.2 (by omega)
            go_wp2_with fail
            go_meet
            case rel => exact HK2.out
          · rw [hxy] at hne
            have hxy2 : x = y := by simpa using hxy
            have HAG2 : Hid (∀ j, j < k + 1 → xs.getD j 0 = ys.getD j 0) := fun j hj => by
              by_cases e : j = k
              · rw [e, ← HXE.out.1, ← HXE.out.2]; exact hxy2
              · exact HAG.out j (by omega)
            clear hxy hxy2 HAG HXE
            go_wp2_with fail
            go_roundg (xs.length - (k + 1))
            case measure => omega
            case rel => exact ⟨k + 1, hlt, rfl, by go_num, HAG2.out, HK2.out⟩
        · obtain rfl : k = xs.length := by omega
          have HR : Hid (sameS xs ys = true) := by
            have e : xs = ys := by
              apply List.ext_getElem HNM.out
              intro j h1 h2
              have := HAG.out j h1
              simpa [List.getD, h1, h2] using this
            rw [e]
            exact sameS_true (fun _ _ => rfl)
          go_wp2_with fail
          go_ret
          exact ⟨by rw [HR.out]; rfl, HK.out⟩
    · have hnm' : ((xs.length : Int) == (ys.length : Int)) = false := beq_eq_false_iff_ne.2 (by omega)
      go_wp2_with fail
      go_meet
      case rel => exact Kp.refl _ _
  case rest =>
    have HK : Hid (Kp (fun _ => True) w wc) := hcut
    clear hcut
    have hMw : w.heap.size ≤ wc.heap.size := HK.out.size
    have HK0 : Hid (Kp (fun _ => True) w (wc.alloc (.map #[] 0))) := HK.out.alloc _
    have HO0 : Hid ((wc.alloc (.map #[] 0)).ownsMap Ybad.prog 9 (plainElem (H := Unit) Ybad.prog 5) wc.heap.size 0 (.map [])) := World.ownsMap_made _ _ _ _
    go_wp2_with fail
    generalize wc.alloc (.map #[] 0) = wm at *
    generalize wc.heap.size = M at *
    clear HK hmm
    go_loopg [37] xs.length (fun g iv wr => ∃ k : Nat, k ≤ xs.length ∧ g = xs.length - k ∧ iv = .int .i64 k ∧ Kp (fun _ => True) w wr ∧ ∃ D, St D (xs.take k) [] ∧ wr.ownsMap Ybad.prog 9 (plainElem (H := Unit) Ybad.prog 5) M k D)
    case atStart => exact ⟨0, Nat.zero_le _, rfl, rfl, HK0.out, _, st_start, HO0.out⟩
    case round =>
      obtain ⟨k, hk, rfl, rfl, hkp, D, hst, hown⟩ := hrel
      have HK : Hid (Kp (fun _ => True) w wr) := hkp
      have HO : Hid (wr.ownsMap Ybad.prog 9 (plainElem (H := Unit) Ybad.prog 5) M k D) := hown
      have HS : Hid (St D (xs.take k) []) := hst
      clear hkp hown hst
      by_cases hlt : k < xs.length
      · have hlt' : (k : Int) < (xs.length : Int) := by omega
        obtain ⟨x, hx⟩ : ∃ x, x = xs.getD k 0 := ⟨_, rfl⟩
        have c13 := clos13 _ xa xi xs Pb off E ecap n L i la lc (side_kp HX.out HK.out) k hlt
        have hx3 := HX.out.x3 k hlt
        have HT : Hid (xs.take (k + 1) = xs.take k ++ [xs.getD k 0]) := by
          rw [Hid, List.take_add_one]; simp [List.getD, List.getElem?_eq_getElem hlt]
        rw [← hx] at c13 hx3 HT
        clear hx
        go_wp2_with fail
        refine c13.mono ?_
        clear c13
        rintro e w1 ⟨rfl, hk1⟩
        have HK1 : Hid (Kp (fun _ => True) w w1) := HK.out.trans hk1
        have HO1 : Hid (w1.ownsMap Ybad.prog 9 (plainElem (H := Unit) Ybad.prog 5) M k D) := own_map_kp HO.out hk1
        clear hk1
        go_wp2_with (first
          | (at_lookup; refine wpList_lookup_own_int _ rfl _ _ 131 rfl 9 5 .u8 law9 Ybad.underlying131 Ybad.underlying5 (zero5 _) M k _ rfl HO1.out _ _ rfl (key_kn x) ?_))
        intro c hat hwc
        have hv := HS.out.vl x hx3
        have hvc : valS (xs.take k) [] x = 0 ∨ valS (xs.take k) [] x = 1 := by unfold valS; split <;> simp
        rw [hv] at hat
        have hcv : valS (xs.take k) [] x = c := by simpa using hat
        rw [hcv] at hvc
        clear hat hwc hv hcv
        have HS2 : Hid (St (D.put (klx x) (.lit (.int .u8 1))) (xs.take (k + 1)) []) := by
          rw [HT.out]
          refine st_put HS.out x hx3 1 ?_ ?_ (fun y _ hne => ⟨?_, rfl⟩)
          · unfold valS; rw [contains_snoc]; simp
          · rw [contains_snoc]; simp
          · rw [contains_snoc]; simp [hne]
        clear HS HO
        rcases hvc with rfl | rfl
        all_goals
          go_wp2_with (first
            | (at_mapUpdate; refine wpList_mapUpdate_own _ rfl _ _ _ 131 rfl 9 5 law9 Ybad.underlying131 _ M k _ rfl HO1.out (by unfold maxLen; omega) _ _ _ rfl rfl (key_kn x) (.lit (.int .u8 1)) [] (plainElem_int Ybad.underlying5 (by decide)) ?_))
          intro w5 hown5 hgrow5
          have HO5 : Hid (w5.ownsMap Ybad.prog 9 (plainElem (H := Unit) Ybad.prog 5) M (k + 1) (D.put (klx x) (.lit (.int .u8 1)))) := hown5
          have HK5 : Hid (Kp (fun _ => True) w w5) := kp_grow HK1.out hgrow5 hMw
          clear hown5 hgrow5
          go_wp2_with fail
          go_roundg (xs.length - (k + 1))
          case measure => omega
          case rel => exact ⟨k + 1, hlt, rfl, by go_num, HK5.out, _, HS2.out, HO5.out⟩
      · obtain rfl : k = xs.length := by omega
        rw [List.take_length] at HS
        go_wp2_with fail
        obtain ⟨wn, rfl⟩ : ∃ wn, wn = wr := ⟨wr, rfl⟩
        go_loopg [48] ys.length (fun g iv wr => ∃ k : Nat, k ≤ ys.length ∧ g = ys.length - k ∧ iv = .int .i64 k ∧ Kp (fun _ => True) w wr ∧ ∃ D, St D xs (ys.take k) ∧ wr.ownsMap Ybad.prog 9 (plainElem (H := Unit) Ybad.prog 5) M (xs.length + k) D)
        case atStart => exact ⟨0, Nat.zero_le _, rfl, rfl, HK.out, D, HS.out, HO.out⟩
        case round =>
          clear HK HO HS D
          obtain ⟨k, hk, rfl, rfl, hkp, D, hst, hown⟩ := hrel
          have HK : Hid (Kp (fun _ => True) w wr) := hkp
          have HO : Hid (wr.ownsMap Ybad.prog 9 (plainElem (H := Unit) Ybad.prog 5) M (xs.length + k) D) := hown
          have HS : Hid (St D xs (ys.take k)) := hst
          clear hkp hown hst
          by_cases hlt : k < ys.length
          · have hlt' : (k : Int) < (ys.length : Int) := by omega
            obtain ⟨x, hx⟩ : ∃ x, x = ys.getD k 0 := ⟨_, rfl⟩
            have c14 := clos14 _ ya yi ys Pb' off' E' ecap' n' L' i' la' lc' (side_kp HY.out HK.out) k hlt
            have hx3 := HY.out.x3 k hlt
            have HT : Hid (ys.take (k + 1) = ys.take k ++ [ys.getD k 0]) := by
              rw [Hid, List.take_add_one]; simp [List.getD, List.getElem?_eq_getElem hlt]
            rw [← hx] at c14 hx3 HT
            clear hx
            go_wp2_with fail
            refine c14.mono ?_
            clear c14
            rintro e w1 ⟨rfl, hk1⟩
            have HK1 : Hid (Kp (fun _ => True) w w1) := HK.out.trans hk1
            have HO1 : Hid (w1.ownsMap Ybad.prog 9 (plainElem (H := Unit) Ybad.prog 5) M (xs.length + k) D) := own_map_kp HO.out hk1
            clear hk1
            go_wp2_with (first
              | (at_lookup; refine wpList_lookup_own_int _ rfl _ _ 131 rfl 9 5 .u8 law9 Ybad.underlying131 Ybad.underlying5 (zero5 _) M (xs.length + k) _ rfl HO1.out _ _ rfl (key_kn x) ?_))
            intro c hat hwc
            have hv := HS.out.vl x hx3
            rw [hv] at hat
            have hcv : valS xs (ys.take k) x = c := by simpa using hat
            have hvc : (xs.contains x = false ∧ (c = 0 ∨ c = 2)) ∨ (xs.contains x = true ∧ (c = 1 ∨ c = 3)) := by
              rw [← hcv]; unfold valS
              cases xs.contains x <;> cases (ys.take k).contains x <;> simp
            clear hat hwc hv hcv
            have HST : Hid (∀ v, valS xs (ys.take k ++ [x]) x = v → St (D.put (klx x) (.lit (.int .u8 v))) xs (ys.take (k + 1))) := by
              intro v hv
              rw [HT.out]
              refine st_put HS.out x hx3 v hv ?_ (fun y _ hne => ⟨rfl, ?_⟩)
              · rw [contains_snoc]; simp
              · rw [contains_snoc]; simp [hne]
            clear HS HO
            rcases hvc with ⟨hcx, rfl | rfl⟩ | ⟨hcx, rfl | rfl⟩
            · have HS2 : Hid (St (D.put (klx x) (.lit (.int .u8 2))) xs (ys.take (k + 1))) := HST.out 2 (by unfold valS; rw [hcx, contains_snoc]; simp)
              clear HST hcx
              go_wp2_with (first
                | (at_mapUpdate; refine wpList_mapUpdate_own _ rfl _ _ _ 131 rfl 9 5 law9 Ybad.underlying131 _ M (xs.length + k) _ rfl HO1.out (by unfold maxLen; omega) _ _ _ rfl rfl (key_kn x) (.lit (.int .u8 2)) [] (plainElem_int Ybad.underlying5 (by decide)) ?_))
              intro w5 hown5 hgrow5
              have HO5 : Hid (w5.ownsMap Ybad.prog 9 (plainElem (H := Unit) Ybad.prog 5) M (xs.length + (k + 1)) (D.put (klx x) (.lit (.int .u8 2)))) := hown5
              have HK5 : Hid (Kp (fun _ => True) w w5) := kp_grow HK1.out hgrow5 hMw
              clear hown5 hgrow5
              go_wp2_with fail
              go_roundg (ys.length - (k + 1))
              case measure => omega
              case rel => exact ⟨k + 1, hlt, rfl, by go_num, HK5.out, _, HS2.out, HO5.out⟩
            · have HS2 : Hid (St (D.put (klx x) (.lit (.int .u8 2))) xs (ys.take (k + 1))) := HST.out 2 (by unfold valS; rw [hcx, contains_snoc]; simp)
              clear HST hcx
              go_wp2_with (first
                | (at_mapUpdate; refine wpList_mapUpdate_own _ rfl _ _ _ 131 rfl 9 5 law9 Ybad.underlying131 _ M (xs.length + k) _ rfl HO1.out (by unfold maxLen; omega) _ _ _ rfl rfl (key_kn x) (.lit (.int .u8 2)) [] (plainElem_int Ybad.underlying5 (by decide)) ?_))
              intro w5 hown5 hgrow5
              have HO5 : Hid (w5.ownsMap Ybad.prog 9 (plainElem (H := Unit) Ybad.prog 5) M (xs.length + (k + 1)) (D.put (klx x) (.lit (.int .u8 2)))) := hown5
              have HK5 : Hid (Kp (fun _ => True) w w5) := kp_grow HK1.out hgrow5 hMw
              clear hown5 hgrow5
              go_wp2_with fail
              go_roundg (ys.length - (k + 1))
              case measure => omega
              case rel => exact ⟨k + 1, hlt, rfl, by go_num, HK5.out, _, HS2.out, HO5.out⟩
            · have HS2 : Hid (St (D.put (klx x) (.lit (.int .u8 3))) xs (ys.take (k + 1))) := HST.out 3 (by unfold valS; rw [hcx, contains_snoc]; simp)
              clear HST hcx
              go_wp2_with (first
                | (at_mapUpdate; refine wpList_mapUpdate_own _ rfl _ _ _ 131 rfl 9 5 law9 Ybad.underlying131 _ M (xs.length + k) _ rfl HO1.out (by unfold maxLen; omega) _ _ _ rfl rfl (key_kn x) (.lit (.int .u8 3)) [] (plainElem_int Ybad.underlying5 (by decide)) ?_))
              intro w5 hown5 hgrow5
              have HO5 : Hid (w5.ownsMap Ybad.prog 9 (plainElem (H := Unit) Ybad.prog 5) M (xs.length + (k + 1)) (D.put (klx x) (.lit (.int .u8 3)))) := hown5
              have HK5 : Hid (Kp (fun _ => True) w w5) := kp_grow HK1.out hgrow5 hMw
              clear hown5 hgrow5
              go_wp2_with fail
              go_roundg (ys.length - (k + 1))
              case measure => omega
              case rel => exact ⟨k + 1, hlt, rfl, by go_num, HK5.out, _, HS2.out, HO5.out⟩
            · have HS2 : Hid (St (D.put (klx x) (.lit (.int .u8 3))) xs (ys.take (k + 1))) := HST.out 3 (by unfold valS; rw [hcx, contains_snoc]; simp)
              clear HST hcx
              go_wp2_with (first
                | (at_mapUpdate; refine wpList_mapUpdate_own _ rfl _ _ _ 131 rfl 9 5 law9 Ybad.underlying131 _ M (xs.length + k) _ rfl HO1.out (by unfold maxLen; omega) _ _ _ rfl rfl (key_kn x) (.lit (.int .u8 3)) [] (plainElem_int Ybad.underlying5 (by decide)) ?_))
              intro w5 hown5 hgrow5
              have HO5 : Hid (w5.ownsMap Ybad.prog 9 (plainElem (H := Unit) Ybad.prog 5) M (xs.length + (k + 1)) (D.put (klx x) (.lit (.int .u8 3)))) := hown5
              have HK5 : Hid (Kp (fun _ => True) w w5) := kp_grow HK1.out hgrow5 hMw
              clear hown5 hgrow5
              go_wp2_with fail
              go_roundg (ys.length - (k + 1))
              case measure => omega
              case rel => exact ⟨k + 1, hlt, rfl, by go_num, HK5.out, _, HS2.out, HO5.out⟩
          · obtain rfl : k = ys.length := by omega
            rw [List.take_length] at HS
            clear hlt
            go_wp2_with (first
              | (at_range; refine wpList_range_own _ rfl _ 131 rfl 9 5 law9 Ybad.underlying131 _ M (xs.length + ys.length) _ rfl HO.out ?_; intro w0 hrg0 hg0 hs0))
            go_frame
            have hRw : w.heap.size ≤ wr.heap.size := HK.out.size
            have HK0 : Hid (Kp (fun _ => True) w w0) := ⟨hg0.os.trans HK.out.os, hg0.tape.trans HK.out.tape, hg0.output.trans HK.out.output, Nat.le_trans HK.out.size hg0.size, fun i hi _ => (hg0.block i (Nat.lt_of_lt_of_le hi HK.out.size) (by simp)).trans (HK.out.block i hi trivial)⟩
            have HG0 : Hid (w0.ranges Ybad.prog 9 (plainElem (H := Unit) Ybad.prog 5) M wr.heap.size (xs.length + ys.length) D (Maps.has D) (Maps.size D)) := hrg0
            clear hrg0 hg0 hs0 HO HK
            generalize wr.heap.size = R at *
            obtain ⟨wz, rfl⟩ : ∃ wz, wz = wr := ⟨wr, rfl⟩
            go_loopw [14] (fun _ wr => ∃ (left : Lit → Bool) (cnt : Nat), wr.ranges Ybad.prog 9 (plainElem (H := Unit) Ybad.prog 5) M R (xs.length + ys.length) D left cnt ∧ (∀ kl, Maps.has D kl = true → left kl = false → D.atKey kl (.lit (.int .u8 0)) = .lit (.int .u8 3)) ∧ Kp (fun _ => True) w wr) (fun _ wr => wr.rangeLeft M R)
            case atStart => exact ⟨_, _, HG0.out, fun kl h1 h2 => absurd h1 (by rw [h2]; simp), HK0.out⟩
            case round =>
              obtain ⟨left, cnt, hrg, hdone, hkw⟩ := hrel
              have HD : Hid (∀ kl, Maps.has D kl = true → left kl = false → D.atKey kl (.lit (.int .u8 0)) = .lit (.int .u8 3)) := hdone
              have HKW : Hid (Kp (fun _ => True) w wr) := hkw
              have HRG : Hid (wr.ranges Ybad.prog 9 (plainElem (H := Unit) Ybad.prog 5) M R (xs.length + ys.length) D left cnt) := hrg
              clear hdone hkw hrg
              go_wp2_with (first
                | (at_next; refine wpList_next_ranges _ rfl _ rfl 9 law9 (plainElem (H := Unit) Ybad.prog 5) Value.string (Value.int .u8) (fun key kl hkey => key_str hkey) (fun v y hv => by obtain ⟨c, rfl, _⟩ := plainElem_int_inv Ybad.underlying5 hv; exact ⟨c, rfl⟩) M R (xs.length + ys.length) _ _ _ rfl HRG.out ?_ ?_))
              · intro _ hl0
                have HRES : Hid (sameS xs ys = true) := sameS_true (fun x hx => by
                  have h1 := HS.out.hs x hx
                  have h2 := HS.out.vl x hx
                  cases hx1 : xs.contains x <;> cases hy1 : ys.contains x
                  · rfl
                  · rw [hx1, hy1] at h1
                    have h3 := HD.out (klx x) h1 (hl0 _)
                    rw [h2] at h3
                    unfold valS at h3
                    rw [hx1, hy1] at h3
                    simp at h3
                  · rw [hx1, hy1] at h1
                    have h3 := HD.out (klx x) h1 (hl0 _)
                    rw [h2] at h3
                    unfold valS at h3
                    rw [hx1, hy1] at h3
                    simp at h3
                  · rfl)
                clear hl0
                go_wp2_with fail
                go_ret
                exact ⟨by rw [HRES.out]; rfl, HKW.out⟩
              · intro s c kl y ps w1 cnt1 hkey hlk hv hat hrg1 hlt1 hg1 hs1 hen
                have hyc : y = .lit (.int .u8 c) := by
                  obtain ⟨c', ec, e2, _⟩ := plainElem_int_inv Ybad.underlying5 hv
                  cases ec
                  exact (Prod.mk.inj e2).1
                rw [hyc] at hat
                have hhas := has_true_of_atKey hat
                obtain ⟨x, hx3, ekl⟩ := HS.out.ky kl hhas
                have HCV : Hid (valS xs ys x = c) := by
                  have h2 := HS.out.vl x hx3
                  rw [← ekl, hat] at h2
                  have h3 : c = valS xs ys x := by simpa using h2
                  exact h3.symm
                have HX3 : Hid (x < 3) := hx3
                have HEK : Hid (kl = klx x) := ekl
                have HAT : Hid (∀ zd, D.atKey kl zd = .lit (.int .u8 c)) := hat
                have HRG1 : Hid (w1.ranges Ybad.prog 9 (plainElem (H := Unit) Ybad.prog 5) M R (xs.length + ys.length) D (fun z => left z && !z.sameKey kl) cnt1 ∧ cnt1 < cnt) := ⟨hrg1, hlt1⟩
                have HKW1 : Hid (Kp (fun _ => True) w w1) := kp_grow HKW.out hg1 hRw
                have HKY : Hid (Maps.has D kl = true) := hhas
                clear hkey hlk hv hat hrg1 hlt1 hg1 hs1 hyc hhas ekl hx3
                by_cases hc3 : c = 3
                · subst hc3
                  go_wp2_with fail
                  go_roundw
                  case rel =>
                    refine ⟨_, _, HRG1.out.1, fun kl' h1 h2 => ?_, HKW1.out⟩
                    by_cases e : kl' = kl
                    · rw [e]; exact HAT.out _
                    · rw [sameKey_ne e] at h2
                      exact HD.out kl' h1 (by simpa using h2)
                  case measure => rw [HRG1.out.1.left_eq, HRG.out.left_eq]; exact HRG1.out.2
                · have hcb : (c != 3) = true := by simp [hc3]
                  have HRES : Hid (sameS xs ys = false) := by
                    refine sameS_false HX3.out (fun e => ?_)
                    have h1 := HCV.out
                    have h2 := HS.out.hs x HX3.out
                    have h5 := HEK.out
                    rw [← h5, HKY.out] at h2
                    unfold valS at h1
                    rw [e] at h1 h2
                    cases hy : ys.contains x
                    · rw [hy] at h2; simp at h2
                    · rw [hy] at h1; simp at h1; exact hc3 h1.symm
                  go_wp2_with fail
                  go_ret
                  exact ⟨by rw [HRES.out]; rfl, HKW1.out⟩

set_option maxRecDepth 100000 in
set_option maxHeartbeats 4000000 in
/-- Of two empty lists: nothing is called. -/
theorem sameSet0 (av bv : Value) (w : World) : Calls Ybad.prog 12 #[.int .i64 0, av, .int .i64 0, bv] w fun e w' => e = .returned (.bool true) ∧ Kp (fun _ => True) w w' := by
  go_enter Ybad.func12, Ybad.ntmps12
  go_wp2_with fail
  go_loopg [9] 0 (fun _ iv wr => iv = .int .i64 0 ∧ wr = w)
  case atStart => exact ⟨rfl, rfl⟩
  case round =>
    obtain ⟨rfl, hw⟩ := hrel
    subst wr
    go_wp2_with fail
    go_ret
    exact ⟨rfl, Kp.refl _ _⟩
end Go.Proofs.YbulkawhcDoor.Se
