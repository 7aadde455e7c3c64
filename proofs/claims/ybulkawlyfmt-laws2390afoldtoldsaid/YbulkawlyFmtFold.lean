import Derived.Test.YbulkawlyFmtAll
import Derived.Deep.CutBlock
import Derived.Deep.RegionHeld
import Derived.Deep.DeepCutAuto
import Derived.Deep.LoopGhost
namespace Go.Proofs.YbulkawlyFmt.Fo
open Go.ChangeShapes Go.WideShapes Go.ChangeAt Go.RowKit Go.Proofs.YbulkawlyFmt.Lw Go.Proofs.YbulkawlyFmt Go.Proofs.YbulkawlyFmt.Pl Go.Proofs.YbulkawlyFmt.Ac
open Go.Stop (Interp)

theorem info30 : (Ybaf.prog.info? 30).map (fun i => (i.zero, i.size, i.bytes)) = some (some (.agg #[.bool false, .string ⟨#[]⟩, .bool false]), 3, 32) := by kernel_rfl
theorem info32 : (Ybaf.prog.info? 32).map (fun i => (i.zero, i.size, i.bytes)) = some (some (.agg #[.string ⟨#[]⟩, .bool false, .bool false, .int .i64 0]), 4, 32) := by kernel_rfl

/-- A slice of numbers that came in. -/
def ArgI (w : World) (ao : Option Addr) (xs : List Int) : Prop := ∀ i, i < xs.length → ∃ b off, ao = some ⟨b, off, none⟩ ∧ w.cell? ⟨b, off + i, none⟩ = some (.int .u8 (xs.getD i 0))
/-- A slice of bools that came in. -/
def ArgB (w : World) (ao : Option Addr) (xs : List Bool) : Prop := ∀ i, i < xs.length → ∃ b off, ao = some ⟨b, off, none⟩ ∧ w.cell? ⟨b, off + i, none⟩ = some (.bool (xs.getD i false))
theorem argI_below {w w1 : World} {ao : Option Addr} {xs : List Int} (h : ArgI w ao xs) (hb : Below w.heap.size w w1) : ArgI w1 ao xs := fun i hi => by
  obtain ⟨b, off, e, hc⟩ := h i hi
  exact ⟨b, off, e, (hb.cell (p := ⟨b, off + i, none⟩) (World.block_lt_of_cell? w _ hc)).trans hc⟩
theorem argB_below {w w1 : World} {ao : Option Addr} {xs : List Bool} (h : ArgB w ao xs) (hb : Below w.heap.size w w1) : ArgB w1 ao xs := fun i hi => by
  obtain ⟨b, off, e, hc⟩ := h i hi
  exact ⟨b, off, e, (hb.cell (p := ⟨b, off + i, none⟩) (World.block_lt_of_cell? w _ hc)).trans hc⟩

/-- The input, and what it means: value i is text 'a i', quoted or not; operator i is 'o i'. -/
structure Inp (w : World) (po oo qo : Option Addr) (ps os : List Int) (qs : List Bool) (a : Nat → Nat) (q : Nat → Bool) (o : Nat → Nat) : Prop where
  p : ArgI w po ps
  s : ArgI w oo os
  u : ArgB w qo qs
  a12 : ∀ i, a i < 12
  o6 : ∀ i, o i < 6
  ha : ∀ i, i < ps.length → ps.getD i 0 % 12 = (a i : Int) ∧ 0 ≤ ps.getD i 0
  ho : ∀ i, i < os.length → os.getD i 0 % 6 = (o i : Int) ∧ 0 ≤ os.getD i 0
  hq : ∀ i, i < qs.length → q i = qs.getD i false
  hq2 : ∀ i, ¬ i < qs.length → q i = false

theorem cells3 (w : World) (x y z : Value) (t : TypeId) : ∀ j u, [x, y, z][j]? = some u → (w.alloc (.cells #[x, y, z] t)).cell? ((⟨w.heap.size, 0, none⟩ : Addr).add j) = some u := by
  intro j u hj
  rw [Addr.add_lit, cell_of_row _ _ _ _ t (0, 0) (heap_alloc_new w _)]
  simpa using hj
theorem cells4 (w : World) (x y z v : Value) (t : TypeId) : ∀ j u, [x, y, z, v][j]? = some u → (w.alloc (.cells #[x, y, z, v] t)).cell? ((⟨w.heap.size, 0, none⟩ : Addr).add j) = some u := by
  intro j u hj
  rw [Addr.add_lit, cell_of_row _ _ _ _ t (0, 0) (heap_alloc_new w _)]
  simpa using hj
theorem one3 (b : Bool) (s : ByteArray) (c : Bool) : ∀ u ∈ [Value.bool b, .string s, .bool c], u.oneCell' = true := by
  intro u hu; simp at hu; rcases hu with rfl | rfl | rfl <;> rfl
theorem one4 (s : ByteArray) (b c : Bool) (n : Int) : ∀ u ∈ [Value.string s, .bool b, .bool c, .int .i64 n], u.oneCell' = true := by
  intro u hu; simp at hu; rcases hu with rfl | rfl | rfl | rfl <;> rfl
theorem four_cells {w : World} {g : Nat} {x y z v : Value} {t : TypeId} (h : w.heap[g]? = some (.cells #[x, y, z, v] t (0, 0))) : w.cell? ⟨g, 0, none⟩ = some x ∧ w.cell? ⟨g, 1, none⟩ = some y ∧ w.cell? ⟨g, 2, none⟩ = some z ∧ w.cell? ⟨g, 3, none⟩ = some v :=
  ⟨by rw [cell_of_row w g 0 _ t (0, 0) h]; rfl, by rw [cell_of_row w g 1 _ t (0, 0) h]; rfl, by rw [cell_of_row w g 2 _ t (0, 0) h]; rfl, by rw [cell_of_row w g 3 _ t (0, 0) h]; rfl⟩

set_option maxRecDepth 100000 in
theorem law_out (a0 a1 a2 : Option Addr) (l0 c0 l1 c1 l2 c2 : Nat) (a3 a4 : Bool) (w : World) (h : 1024 < l0 ∨ 1024 < l1 ∨ 1024 < l2) :
    Calls Ybaf.prog 3 #[.slice a0 l0 c0, .slice a1 l1 c1, .slice a2 l2 c2, .bool a3, .bool a4] w fun e w' => e = .returned (.bool true) ∧ Below w.heap.size w w' := by
  by_cases h0 : 1024 < l0
  · have b0 : (1024 : Int) < (l0 : Int) := by omega
    go_enter Ybaf.func3, Ybaf.ntmps3
    go_wp2
    go_ret
    exact ⟨rfl, Below.refl _ _⟩
  · have b0 : ¬ (1024 : Int) < (l0 : Int) := by omega
    by_cases h1 : 1024 < l1
    · have b1 : (1024 : Int) < (l1 : Int) := by omega
      go_enter Ybaf.func3, Ybaf.ntmps3
      go_wp2
      go_ret
      exact ⟨rfl, Below.refl _ _⟩
    · have b1 : ¬ (1024 : Int) < (l1 : Int) := by omega
      have b2 : (1024 : Int) < (l2 : Int) := by omega
      go_enter Ybaf.func3, Ybaf.ntmps3
      go_wp2
      go_ret
      exact ⟨rfl, Below.refl _ _⟩

/-- The tokens ahead of value k: an operator has been laid. -/
def TL (a : Nat → Nat) (q : Nat → Bool) (o : Nat → Nat) : Nat → List Tok
  | 0 => []
  | k + 1 => tokL a q o (k + 1) ++ [otok o k]
theorem tl_next (a : Nat → Nat) (q : Nat → Bool) (o : Nat → Nat) : ∀ k, TL a q o k ++ [vtok a q k] = tokL a q o (k + 1)
  | 0 => rfl
  | _ + 1 => rfl
theorem tl_len (a : Nat → Nat) (q : Nat → Bool) (o : Nat → Nat) : ∀ k, (TL a q o k).length = 2 * k
  | 0 => rfl
  | k + 1 => by simp only [TL, List.length_append, tokL_len, List.length_cons, List.length_nil]; omega
theorem rec_parts (x : Nat) (y : Bool) : ∃ s b i n, recC x y = [.string s, .bool b, .bool i, .int .i64 n] ∧ Lf.rec x y = .agg #[.string s, .bool b, .bool i, .int .i64 n] := ⟨_, _, _, _, rfl, rfl⟩
theorem wr_a (j : Nat) (h : j ≤ 100000) : wrap64 ((j : Int) + 1 - 1) = (j : Int) := by unfold wrap64; omega
theorem wr_b (j : Nat) (h : j ≤ 100000) : wrap64 (j : Int) = (j : Int) := by unfold wrap64; omega
theorem wr_c (j : Nat) (h : j ≤ 100000) : IntKind.i64.wrap ((j : Int) + 1 - 1) = (j : Int) := by rw [IntKind.wrap_i64]; omega
theorem wr_d (j : Nat) (h : j ≤ 100000) : IntKind.i64.wrap (j : Int) = (j : Int) := by rw [IntKind.wrap_i64]; omega
theorem keepS {w w' : World} (hk : Kp (fun _ => True) w w') {p1 p2 p3 p4 p5 p6 p7 p8 p9 : Addr} {x1 x2 x3 x4 x5 x6 x7 x8 x9 : Value}
    (h : w.cell? p1 = some x1 ∧ w.cell? p2 = some x2 ∧ w.cell? p3 = some x3 ∧ w.cell? p4 = some x4 ∧ w.cell? p5 = some x5 ∧ w.cell? p6 = some x6 ∧ w.cell? p7 = some x7 ∧ w.cell? p8 = some x8 ∧ w.cell? p9 = some x9) :
    w'.cell? p1 = some x1 ∧ w'.cell? p2 = some x2 ∧ w'.cell? p3 = some x3 ∧ w'.cell? p4 = some x4 ∧ w'.cell? p5 = some x5 ∧ w'.cell? p6 = some x6 ∧ w'.cell? p7 = some x7 ∧ w'.cell? p8 = some x8 ∧ w'.cell? p9 = some x9 :=
  ⟨cell_kp hk h.1 trivial, cell_kp hk h.2.1 trivial, cell_kp hk h.2.2.1 trivial, cell_kp hk h.2.2.2.1 trivial, cell_kp hk h.2.2.2.2.1 trivial, cell_kp hk h.2.2.2.2.2.1 trivial, cell_kp hk h.2.2.2.2.2.2.1 trivial, cell_kp hk h.2.2.2.2.2.2.2.1 trivial, cell_kp hk h.2.2.2.2.2.2.2.2 trivial⟩

set_option maxRecDepth 100000 in
set_option maxHeartbeats 16000000 in
theorem law_ok (F : Interp) (po oo qo : Option Addr) (pc oc qc : Nat) (ps os : List Int) (qs : List Bool) (a : Nat → Nat) (q : Nat → Bool) (o : Nat → Nat) (w : World) (hi : Inp w po oo qo ps os qs a q o)
    (hp : ps.length ≤ 1024) (ho : os.length ≤ 1024) (hq : qs.length ≤ 1024) (m : Nat) (hm : 0 < m) (hmp : m ≤ ps.length) (hmo : m ≤ os.length + 1) (hmx : m = ps.length ∨ m = os.length + 1)
    (ev : Value) (hev : w.cell? ⟨1, 0, none⟩ = some ev) (hev2 : ev = .nilIface ∨ ∃ te pe, ev = .iface te pe) (hF : F.answers w.tape) (tail dangle : Bool) :
    Calls Ybaf.prog 3 #[.slice po ps.length pc, .slice oo os.length oc, .slice qo qs.length qc, .bool tail, .bool dangle] w fun e w' => e = .returned (.bool true) ∧ Below w.heap.size w w' := by
  have b0 : ¬ (1024 : Int) < (ps.length : Int) := by omega
  have b1 : ¬ (1024 : Int) < (os.length : Int) := by omega
  have b2 : ¬ (1024 : Int) < (qs.length : Int) := by omega
  obtain ⟨i30, ti, tz0, tz1, tz2⟩ := info_parts info30
  obtain ⟨i32, vi, vz0, vz1, vz2⟩ := info_parts info32
  have HI : Hid (Inp w po oo qo ps os qs a q o) := hi
  have HEV : Hid (w.cell? ⟨1, 0, none⟩ = some ev) := hev
  have HEV2 : Hid (ev = .nilIface ∨ ∃ te pe, ev = .iface te pe) := hev2
  have HF : Hid (F.answers w.tape) := hF
  have HMX : Hid (m = ps.length ∨ m = os.length + 1) := hmx
  clear hi hev hev2 hF hmx
  go_enter Ybaf.func3, Ybaf.ntmps3
  go_upto_block 0 with fail
  go_cut [11, 12, 13, 14, 15] (fun tv vv _ _ _ wx => MR w wx tv vv (tokL a q o m) a q m)
  case first =>
    go_wp2_with fail
    go_loopg [11, 12, 13] m (fun g tv vv i wr => ∃ k : Nat, k ≤ m ∧ g = m - k ∧ i = .int .i64 k ∧ MR w wr tv vv (tokL a q o k) a q k)
    case atStart => exact ⟨0, Nat.zero_le _, rfl, rfl, ⟨World.ownsRow_nil _ _ _ _, World.ownsRow_nil _ _ _ _, Below.refl _ _⟩⟩
    case round =>
      obtain ⟨k, hk, rfl, rfl, M⟩ := hrel
      obtain ⟨wo, rfl⟩ : ∃ wo, wo = wr := ⟨wr, rfl⟩
      have HM : Hid (MR w wo u11 u12 (tokL a q o k) a q k) := M
      clear M
      by_cases hlt : k < m
      · have hkp : k < ps.length := by omega
        have hkp' : (k : Int) < (ps.length : Int) := by omega
        go_upto_if 42 with fail
        go_cut [11] (fun tv wx => MR w wx tv u12 (TL a q o k) a q k)
        case first => 
          by_cases hk0 : k = 0
          · have hk0' : ¬ (0 : Int) < (k : Int) := by omega
            have HK0 : Hid (k = 0) := hk0
            clear hk0
            go_wp2_with fail
            go_meet
            case rel => have := HM.out; rw [HK0.out] at this ⊢; exact this
          · have hk0' : (0 : Int) < (k : Int) := by omega
            have hko : ¬ (os.length : Int) ≤ (k : Int) - 1 := by omega
            obtain ⟨sb, soff, rfl, hsc⟩ := argI_below HI.out.s HM.out.bel (k - 1) (by omega)
            obtain ⟨hsa, hs0⟩ := HI.out.ho (k - 1) (by omega)
            have HO6 := HI.out.o6 (k - 1)
            generalize os.getD (k - 1) 0 = x at hsc hsa hs0
            have hkx : ((k : Int) - 1).toNat = k - 1 := by omega
            have hTL : Hid (TL a q o k = tokL a q o k ++ [otok o (k - 1)]) := by
              obtain ⟨j, rfl⟩ : ∃ j, k = j + 1 := ⟨k - 1, by omega⟩
              exact rfl
            have hlen : Hid ((tokL a q o k).length = 2 * k - 1) := by
              obtain ⟨j, rfl⟩ : ∃ j, k = j + 1 := ⟨k - 1, by omega⟩
              exact (tokL_len a q o j).trans (by omega)
            go_wp2_with fail
            refine (Lf.aop x (o (k - 1)) HO6 hsa hs0 _).mono ?_
            rintro e w3 ⟨rfl, hw3⟩; subst w3
            go_wp2_with (first
              | (at_builtin; refine wpList_append_lies _ rfl _ _ 24 rfl w.heap.size 30 i30 (.agg #[.bool false, .string ⟨#[]⟩, .bool false]) 3 32 Ybaf.underlying24 ti tz0 tz1 tz2 rfl (by decide) _ (tokL a q o k).length (row (tokL a q o k)) rfl (HM.out.tk.alloc _) ⟨wo.heap.size, 0, none⟩ 1 1 [.bool true, .string (oxt (o (k - 1))), .bool false] rfl rfl (cells3 _ _ _ _ _) (one3 _ _ _) (by omega) ?cc3 ?cc4 ?cc5 (wo.heap.size + 1) ?cc6 ?_))
            case cc3 => have := hlen.out; unfold maxLen; omega
            case cc4 => have := hlen.out; omega
            case cc5 => have := HM.out.bel.size; simp; omega
            case cc6 => simp
            intro g cap w5 hown hgrow hat hlt1
            have M5 : Hid (MR w w5 (.slice (some ⟨g, 0, none⟩) ((tokL a q o k).length + 1) cap) u12 (TL a q o k) a q k) := by
              rw [hTL.out]; exact mr_tok HM.out (otok o (k - 1)) _ hgrow hown
            clear hown hgrow hat hlt1
            go_wp2_with fail
            go_meet
            case rel => exact M5.out
        case rest =>
          have HM2 : Hid (MR w wc u11 u12 (TL a q o k) a q k) := hcut
          clear hcut
          go_upto_region 11 with fail
          go_cut [14] (fun v wx => v = .bool (q k) ∧ wx = wc)
          case first =>
            by_cases hkq : k < qs.length
            · obtain ⟨qb, qoff, rfl, hqc⟩ := argB_below HI.out.u HM2.out.bel k hkq
              rw [← HI.out.hq k hkq] at hqc
              have hkq' : (k : Int) < (qs.length : Int) := by omega
              go_wp2_with fail
              go_meet
              case rel => exact ⟨rfl, rfl⟩
            · have hkq' : ¬ (k : Int) < (qs.length : Int) := by omega
              have hqk := HI.out.hq2 k hkq
              go_wp2_with fail
              go_meet
              case rel => exact ⟨by rw [hqk], rfl⟩
          case rest =>
            obtain ⟨rfl, hwx⟩ := hcut
            subst hwx
            obtain ⟨pb, poff, rfl, hpc⟩ := argI_below HI.out.p HM2.out.bel k hkp
            obtain ⟨hpa, hp0⟩ := HI.out.ha k hkp
            have HA12 := HI.out.a12 k
            generalize ps.getD k 0 = x at hpc hpa hp0
            go_wp2_with fail
            refine (Lf.entry x (a k) (q k) HA12 hpa hp0 _).mono ?_
            rintro e w3 ⟨rfl, hk3⟩
            unfold Lf.rec
            have hgi : Hid (recC (a k) (q k) = [.string (txt (a k)), .bool (q k), .bool (isI (a k) && !(q k)), .int .i64 (if q k then 0 else num (a k))]) := rfl
            generalize hii : (isI (a k) && !(q k)) = ii at *
            generalize hnn : (if q k then (0 : Int) else num (a k)) = nn at *
            have M4 : Hid (MR w (w3.alloc (.cells #[.string (txt (a k)), .bool (q k), .bool ii, .int .i64 nn] 32)) u11 u12 (TL a q o k) a q k) := mr_kp (mr_kp HM2.out hk3) ((Kp.refl (fun _ => True) w3).alloc _)
            have hR4 := heap_alloc_new w3 (.cells #[.string (txt (a k)), .bool (q k), .bool ii, .int .i64 nn] 32)
            have hRl : w3.heap.size < (w3.alloc (.cells #[.string (txt (a k)), .bool (q k), .bool ii, .int .i64 nn] 32)).heap.size := by simp
            clear hk3 hii hnn
            go_upto_region 13 with fail
            generalize w3.alloc (.cells #[.string (txt (a k)), .bool (q k), .bool ii, .int .i64 nn] 32) = w4 at *
            generalize w3.heap.size = R at *
            obtain ⟨r0, r1, r2, r3⟩ := four_cells hR4
            have HR4 : Hid (w4.heap[R]? = some (.cells #[.string (txt (a k)), .bool (q k), .bool ii, .int .i64 nn] 32 (0, 0))) := hR4
            have hlen : Hid ((TL a q o k).length = 2 * k) := tl_len a q o k
            have hown4 : Hid (∀ g, u11.ownBlock = some g → g ≠ R) := fun g hg e => by
              subst e
              rcases M4.out.tk.2 with ⟨rfl, _⟩ | ⟨g1, c1, cur1, rfl, _, hh1, _⟩
              · simp [Value.ownBlock] at hg
              · simp [Value.ownBlock] at hg
                subst hg
                rw [hR4] at hh1
                simp at hh1
            clear hR4
            go_wp2_with (first
              | (at_builtin; refine wpList_append_lies _ rfl _ _ 24 rfl w.heap.size 30 i30 (.agg #[.bool false, .string ⟨#[]⟩, .bool false]) 3 32 Ybaf.underlying24 ti tz0 tz1 tz2 rfl (by decide) _ (TL a q o k).length (row (TL a q o k)) rfl (M4.out.tk.alloc _) ⟨w4.heap.size, 0, none⟩ 1 1 [.bool false, .string (txt (a k)), .bool (q k)] rfl rfl (cells3 _ _ _ _ _) (one3 _ _ _) (by omega) ?dc3 ?dc4 ?dc5 (w4.heap.size + 1) ?dc6 ?_))
            case dc3 => have := hlen.out; unfold maxLen; omega
            case dc4 => have := hlen.out; omega
            case dc5 => have := M4.out.bel.size; simp; omega
            case dc6 => simp
            intro g cap w5 hown hgrow hat hlt1
            have M5 : Hid (MR w w5 (.slice (some ⟨g, 0, none⟩) ((TL a q o k).length + 1) cap) u12 (tokL a q o (k + 1)) a q k) := by
              rw [← tl_next]; exact mr_tok M4.out (vtok a q k) _ hgrow hown
            have HR5 : Hid (w5.heap[R]? = some (.cells #[.string (txt (a k)), .bool (q k), .bool ii, .int .i64 nn] 32 (0, 0))) :=
              (((Kp.refl (fun k => some k ≠ u11.ownBlock) w4).alloc _).trans (Kp.ofGrown hgrow)).row HR4.out (fun e => hown4.out R e.symm rfl)
            obtain ⟨t0, t1, t2, t3⟩ := four_cells HR5.out
            have hRl5 := lt_of_row HR5.out
            clear hown hgrow hat hlt1 r0 r1 r2 r3 hRl
            go_wp2_with (first
              | (at_builtin; refine wpList_append_lies _ rfl _ _ 25 rfl w.heap.size 32 i32 (.agg #[.string ⟨#[]⟩, .bool false, .bool false, .int .i64 0]) 4 32 Ybaf.underlying25 vi vz0 vz1 vz2 rfl (by decide) _ k (recs a q k) rfl (M5.out.vl.alloc _) ⟨w5.heap.size, 0, none⟩ 1 1 [.string (txt (a k)), .bool (q k), .bool ii, .int .i64 nn] rfl rfl (cells4 _ _ _ _ _ _) (one4 _ _ _ _) (by omega) ?ec3 ?ec4 ?ec5 (w5.heap.size + 1) ?ec6 ?_))
            case ec3 => unfold maxLen; omega
            case ec4 => omega
            case ec5 => have := M5.out.bel.size; simp; omega
            case ec6 => simp
            intro g2 cap2 w6 hown2 hgrow2 hat2 hlt2
            have M6 : Hid (MR w w6 (.slice (some ⟨g, 0, none⟩) ((TL a q o k).length + 1) cap) (.slice (some ⟨g2, 0, none⟩) (k + 1) cap2) (tokL a q o (k + 1)) a q (k + 1)) :=
              mr_val M5.out _ hgrow2 (by rw [hgi.out]; exact hown2)
            clear hown2 hgrow2 hat2 hlt2
            go_wp2_with fail
            go_roundg (m - (k + 1))
            case measure => omega
            case rel => exact ⟨k + 1, by omega, rfl, by go_num, M6.out⟩
      · have hkm : k = m := by omega
        subst hkm
        by_cases hpl : k = ps.length
        · have hkp' : ¬ (k : Int) < (ps.length : Int) := by omega
          have HK0 : Hid (k = ps.length) := hpl
          clear hpl
          go_wp2_with fail
          go_meet
          case rel => exact HM.out
        · have hkp' : (k : Int) < (ps.length : Int) := by omega
          have hk0' : (0 : Int) < (k : Int) := by omega
          have hko : (os.length : Int) ≤ (k : Int) - 1 := by have := HMX.out; omega
          go_wp2_with fail
          go_meet
          case rel => exact HM.out
  case rest =>
    have HM : Hid (MR w wc u11 u12 (tokL a q o m) a q m) := hcut
    clear hcut
    obtain ⟨k, rfl⟩ : ∃ k, m = k + 1 := ⟨m - 1, by omega⟩
    obtain ⟨V, vcap, rfl, hVl, hVw, hvc⟩ := vals_of HM.out
    have HVC : Hid (∀ i j u, i < k + 1 → j < 4 → (recC (a i) (q i))[j]? = some u → wc.cell? ⟨V, i * 4 + j, none⟩ = some u) := hvc
    clear hvc
    have hvpos : (0 : Int) < ((k + 1 : Nat) : Int) := by omega
    have hlen : Hid ((tokL a q o (k + 1)).length = 2 * k + 1) := tokL_len a q o k
    go_upto_region 15 with fail
    go_cut [93] (fun v wx => v = .bool dangle ∧ wx = wc)
    case first =>
      cases dangle
      all_goals
        go_wp2_with fail
        go_meet
        case rel => exact ⟨rfl, rfl⟩
    case rest =>
    obtain ⟨rfl, hwx⟩ := hcut
    subst hwx
    go_upto_if 93 with fail
    go_cut [11] (fun tv wx => MR w wx tv (.slice (some ⟨V, 0, none⟩) (k + 1) vcap) (tokL a q o (k + 1) ++ dg dangle) a q (k + 1))
    case first =>
      cases dangle
      · go_wp2_with fail
        go_meet
        case rel => exact (List.append_nil (tokL a q o (k + 1))).symm ▸ HM.out
      · go_wp2_with (first
          | (at_builtin; refine wpList_append_lies _ rfl _ _ 24 rfl w.heap.size 30 i30 (.agg #[.bool false, .string ⟨#[]⟩, .bool false]) 3 32 Ybaf.underlying24 ti tz0 tz1 tz2 rfl (by decide) _ (tokL a q o (k + 1)).length (row (tokL a q o (k + 1))) rfl (HM.out.tk.alloc _) ⟨wc.heap.size, 0, none⟩ 1 1 [.bool true, .string (oxt 2), .bool false] rfl rfl (cells3 _ _ _ _ _) (one3 _ _ _) (by omega) ?fc3 ?fc4 ?fc5 (wc.heap.size + 1) ?fc6 ?_))
        case fc3 => have := hlen.out; unfold maxLen; omega
        case fc4 => have := hlen.out; omega
        case fc5 => have := HM.out.bel.size; simp; omega
        intro g cap w5 hown hgrow hat hlt1
        have M5 : Hid (MR w w5 (.slice (some ⟨g, 0, none⟩) ((tokL a q o (k + 1)).length + 1) cap) (.slice (some ⟨V, 0, none⟩) (k + 1) vcap) (tokL a q o (k + 1) ++ dg true) a q (k + 1)) :=
          mr_tok HM.out ⟨true, oxt 2, false⟩ _ hgrow hown
        clear hown hgrow hat hlt1
        go_wp2_with fail
        go_meet
        case rel => exact M5.out
    case rest =>
    clear HM hVl HVC hVw
    have HM : Hid (MR w wc u11 (.slice (some ⟨V, 0, none⟩) (k + 1) vcap) (tokL a q o (k + 1) ++ dg dangle) a q (k + 1)) := hcut
    clear hcut
    have hlen2 : Hid ((tokL a q o (k + 1) ++ dg dangle).length ≤ 2 * k + 2) := by
      have := hlen.out
      rw [Hid, List.length_append, this]
      have : (dg dangle).length ≤ 1 := by cases dangle <;> decide
      omega
    go_upto_if 99 with fail
    go_cut [11] (fun tv wx => MR w wx tv (.slice (some ⟨V, 0, none⟩) (k + 1) vcap) (allT a q o (k + 1) dangle tail) a q (k + 1))
    case first =>
      cases tail
      · go_wp2_with fail
        go_meet
        case rel => exact (show allT a q o (k + 1) dangle false = tokL a q o (k + 1) ++ dg dangle from List.append_nil _).symm ▸ HM.out
      · go_wp2_with (first
          | (at_builtin; refine wpList_append_lies _ rfl _ _ 24 rfl w.heap.size 30 i30 (.agg #[.bool false, .string ⟨#[]⟩, .bool false]) 3 32 Ybaf.underlying24 ti tz0 tz1 tz2 rfl (by decide) _ (tokL a q o (k + 1) ++ dg dangle).length (row (tokL a q o (k + 1) ++ dg dangle)) rfl (HM.out.tk.alloc _) ⟨wc.heap.size, 0, none⟩ 1 1 [.bool true, .string ⟨#[38]⟩, .bool false] rfl rfl (cells3 _ _ _ _ _) (one3 _ _ _) (by omega) ?gc3 ?gc4 ?gc5 (wc.heap.size + 1) ?gc6 ?_))
        case gc3 => have := hlen2.out; rw [List.length_append] at this; unfold maxLen; omega
        case gc4 => have := hlen2.out; rw [List.length_append] at this; omega
        case gc5 => have := HM.out.bel.size; simp; omega
        intro g cap w5 hown hgrow hat hlt1
        have M5 : Hid (MR w w5 (.slice (some ⟨g, 0, none⟩) ((tokL a q o (k + 1)).length + (dg dangle).length + 1) cap) (.slice (some ⟨V, 0, none⟩) (k + 1) vcap) (allT a q o (k + 1) dangle true) a q (k + 1)) := by
          rw [← List.length_append] at hown ⊢
          exact mr_tok HM.out ⟨true, ⟨#[38]⟩, false⟩ _ hgrow hown
        clear hown hgrow hat hlt1
        go_wp2_with fail
        go_meet
        case rel => exact M5.out
    case rest =>
    clear HM hlen hlen2
    have HM : Hid (MR w wc u11 (.slice (some ⟨V, 0, none⟩) (k + 1) vcap) (allT a q o (k + 1) dangle tail) a q (k + 1)) := hcut
    clear hcut
    obtain ⟨V', vcap', evv, hVl, hVw, hvc⟩ := vals_of HM.out
    obtain ⟨rfl, rfl⟩ : V = V' ∧ vcap = vcap' := by simpa using evv
    have HVC : Hid (∀ i j u, i < k + 1 → j < 4 → (recC (a i) (q i))[j]? = some u → wc.cell? ⟨V, i * 4 + j, none⟩ = some u) := hvc
    clear evv hvc
    have htl := all_len a q o k dangle tail
    have hdt := dt_len dangle tail
    obtain ⟨T, tcap, rfl, hTl, hTw, hps⟩ := ps_of HM.out (by omega) (by omega)
    have HPS : Hid (Ps (wc.alloc (.cells #[.slice (some ⟨T, 0, none⟩) (allT a q o (k + 1) dangle tail).length tcap, .int .i64 0] 36)) wc.heap.size T (some ⟨T, 0, none⟩) tcap (allT a q o (k + 1) dangle tail) 0) := hps
    have HTL : Hid ((allT a q o (k + 1) dangle tail).length = 2 * k + 1 + (dg dangle ++ tl tail).length) := htl
    clear hps htl hdt
    have hev1 : 1 < w.heap.size := World.block_lt_of_cell? w _ HEV.out
    have hbs := HM.out.bel.size
    have ka : Hid (Kp (fun _ => True) wc (wc.alloc (.cells #[.slice (some ⟨T, 0, none⟩) (allT a q o (k + 1) dangle tail).length tcap, .int .i64 0] 36))) := (Kp.refl _ _).alloc _
    go_upto_region 20 with fail
    generalize wc.alloc (.cells #[.slice (some ⟨T, 0, none⟩) (allT a q o (k + 1) dangle tail).length tcap, .int .i64 0] 36) = wp at *
    have hPw : w.heap.size ≤ wc.heap.size := hbs
    have hVP : V ≠ wc.heap.size := by omega
    have hTP : T ≠ wc.heap.size := by omega
    have HBW : Hid (Below w.heap.size w wp) := HM.out.bel.trans (ka.out.below hbs (fun _ _ => trivial))
    have HVC2 : Hid (∀ i j u, i < k + 1 → j < 4 → (recC (a i) (q i))[j]? = some u → wp.cell? ⟨V, i * 4 + j, none⟩ = some u) := fun i j u hi hj hu => cell_kp ka.out (HVC.out i j u hi hj hu) trivial
    have HEV3 : Hid (wp.cell? ⟨1, 0, none⟩ = some ev) := cell_kp ka.out ((HM.out.bel.cell (p := ⟨1, 0, none⟩) hev1).trans HEV.out) trivial
    have HF3 : Hid (F.answers wp.tape) := by rw [Hid, HBW.out.tape]; exact HF.out
    clear HM HVC ka hTl hVl hbs HEV HF
    generalize wc.heap.size = P at *
    cases dangle
    · go_wp2_with fail
      refine (comparison_ok P T tcap _ _ HPS.out (k + 1) (by omega) (by omega) a q o HI.out.a12 HI.out.o6 (fun i hi => all_val a q o k false tail i hi) (fun i hi => all_op a q o k false tail i hi) (fun i hi => all_stp a q o HI.out.o6 k false tail i hi) (all_end a q o k tail) ev HEV3.out HEV2.out (by omega)).mono ?_
      rintro e w7 ⟨rfl, hp7, hk7⟩
      have B7 : Hid (Below w.heap.size w w7) := HBW.out.trans (hk7.below HBW.out.size (fun z hz => by omega))
      have HP7 : Hid (w7.heap[P]? = some (.cells #[.slice (some ⟨T, 0, none⟩) (allT a q o (k + 1) false tail).length tcap, .int .i64 ((2 * k + 1 : Nat) : Int)] 36 (0, 0))) := hp7.st
      have HV7 : Hid (∀ i j u, i < k + 1 → j < 4 → (recC (a i) (q i))[j]? = some u → w7.cell? ⟨V, i * 4 + j, none⟩ = some u) := fun i j u hi hj hu => cell_kp hk7 (HVC2.out i j u hi hj hu) hVP
      clear hp7 hk7 HPS HBW HVC2 HEV3 HF3 HEV2
      rw [show k + 1 - 1 = k from rfl]
      go_upto_region 23 with fail
      have ka : Hid (Kp (fun _ => True) w7 (w7.alloc (.cells #[.string (txt (cur a q o k).1), .bool (cur a q o k).2] 28))) := (Kp.refl _ _).alloc _
      have HX : Hid ((w7.alloc (.cells #[.string (txt (cur a q o k).1), .bool (cur a q o k).2] 28)).heap[w7.heap.size]? = some (.cells #[.string (txt (cur a q o k).1), .bool (cur a q o k).2] 28 (0, 0))) := heap_alloc_new w7 _
      generalize w7.alloc (.cells #[.string (txt (cur a q o k).1), .bool (cur a q o k).2] 28) = w8 at *
      generalize w7.heap.size = X at *
      have B8 : Hid (Below w.heap.size w w8) := B7.out.trans (ka.out.below B7.out.size (fun _ _ => trivial))
      have HP8 := ka.out.row HP7.out trivial
      have HV8 : Hid (∀ i j u, i < k + 1 → j < 4 → (recC (a i) (q i))[j]? = some u → w8.cell? ⟨V, i * 4 + j, none⟩ = some u) := fun i j u hi hj hu => cell_kp ka.out (HV7.out i j u hi hj hu) trivial
      clear B7 HP7 HV7 ka
      have HP8' : Hid (w8.heap[P]? = some (.cells #[.slice (some ⟨T, 0, none⟩) (allT a q o (k + 1) false tail).length tcap, .int .i64 ((2 * k + 1 : Nat) : Int)] 36 (0, 0))) := HP8
      clear HP8
      obtain ⟨s0, q0, i0, n0, e0, e0'⟩ := rec_parts (a 0) (q 0)
      have HE0 : Hid (recC (a 0) (q 0) = [.string s0, .bool q0, .bool i0, .int .i64 n0]) := e0
      have v0 : w8.cell? ⟨V, 0, none⟩ = some (.string s0) := HV8.out 0 0 _ (by omega) (by omega) (by rw [e0]; rfl)
      have v1 : w8.cell? ⟨V, 1, none⟩ = some (.bool q0) := HV8.out 0 1 _ (by omega) (by omega) (by rw [e0]; rfl)
      have v2 : w8.cell? ⟨V, 2, none⟩ = some (.bool i0) := HV8.out 0 2 _ (by omega) (by omega) (by rw [e0]; rfl)
      have v3 : w8.cell? ⟨V, 3, none⟩ = some (.int .i64 n0) := HV8.out 0 3 _ (by omega) (by omega) (by rw [e0]; rfl)
      have hVl := World.block_lt_of_cell? w8 _ v0
      clear e0 e0'
      go_upto_region 24 with fail
      have ka : Hid (Kp (fun _ => True) w8 (w8.alloc (.cells #[.string s0, .bool q0, .bool i0, .int .i64 n0] 32))) := (Kp.refl _ _).alloc _
      have HC0 : Hid ((w8.alloc (.cells #[.string s0, .bool q0, .bool i0, .int .i64 n0] 32)).heap[w8.heap.size]? = some (.cells (recC (a 0) (q 0)).toArray 32 (0, 0))) := by
        rw [HE0.out]; exact heap_alloc_new w8 _
      generalize w8.alloc (.cells #[.string s0, .bool q0, .bool i0, .int .i64 n0] 32) = w9 at *
      have hXl : X < w8.heap.size := lt_of_row HX.out
      have hPl : P < w8.heap.size := lt_of_row HP8'.out
      have hVl' : V < w8.heap.size := hVl
      have hCw : w.heap.size ≤ w8.heap.size := B8.out.size
      generalize w8.heap.size = C at *
      have B9 : Hid (Below w.heap.size w w9) := B8.out.trans (ka.out.below B8.out.size (fun _ _ => trivial))
      have HP9 : Hid (w9.heap[P]? = some (.cells #[.slice (some ⟨T, 0, none⟩) (allT a q o (k + 1) false tail).length tcap, .int .i64 ((2 * k + 1 : Nat) : Int)] 36 (0, 0))) := ka.out.row HP8'.out trivial
      have HX9 : Hid (w9.heap[X]? = some (.cells #[.string (txt (cur a q o k).1), .bool (cur a q o k).2] 28 (0, 0))) := ka.out.row HX.out trivial
      have HV9 : Hid (∀ i j u, i < k + 1 → j < 4 → (recC (a i) (q i))[j]? = some u → w9.cell? ⟨V, i * 4 + j, none⟩ = some u) := fun i j u hi hj hu => cell_kp ka.out (HV8.out i j u hi hj hu) trivial
      clear B8 HP8' HX HV8 ka HE0 v0 v1 v2 v3 hVl
      go_wp2_with fail
      go_loopg [20] k (fun g iv wr => ∃ j : Nat, j ≤ k ∧ g = k - j ∧ iv = .int .i64 ((j : Int) + 1) ∧ wr.heap[C]? = some (.cells (recC (cur a q o j).1 (cur a q o j).2).toArray 32 (0, 0)) ∧ Kp (fun z => z ≠ C) w9 wr)
      case atStart => exact ⟨0, Nat.zero_le _, rfl, rfl, HC0.out, Kp.refl _ _⟩
      case round =>
        obtain ⟨j, hj, rfl, rfl, hc, hkw⟩ := hrel
        obtain ⟨wo, rfl⟩ : ∃ wo, wo = wr := ⟨wr, rfl⟩
        have HC : Hid (wo.heap[C]? = some (.cells (recC (cur a q o j).1 (cur a q o j).2).toArray 32 (0, 0))) := hc
        have HK : Hid (Kp (fun z => z ≠ C) w9 wo) := hkw
        clear hc hkw
        by_cases hlt : j < k
        · have hlt' : (j : Int) + 1 < (k : Int) + 1 := by omega
          have hjo : j < os.length := by omega
          have BW : Hid (Below w.heap.size w wo) := B9.out.trans (HK.out.below B9.out.size (fun z hz => by omega))
          obtain ⟨sb, soff, rfl, hsc⟩ := argI_below HI.out.s BW.out j hjo
          obtain ⟨hsa, hs0⟩ := HI.out.ho j hjo
          have hjo' : (j : Int) < (os.length : Int) := by omega
          generalize os.getD j 0 = x at hsc hsa hs0
          obtain ⟨s1, q1, i1, n1, e1, e1'⟩ := rec_parts (cur a q o j).1 (cur a q o j).2
          obtain ⟨s2, q2, i2, n2, e2, e2'⟩ := rec_parts (a (j + 1)) (q (j + 1))
          have cA := fun wz => Cm.acmp (o j) (HI.out.o6 j) (cur a q o j).1 (a (j + 1)) (cur a q o j).2 (q (j + 1)) wz
          rw [e1', e2'] at cA
          have cB := fun wz => Lf.aop x (o j) (HI.out.o6 j) hsa hs0 wz
          have hcw : wo.heap[C]? = some (.cells #[.string s1, .bool q1, .bool i1, .int .i64 n1] 32 (0, 0)) := by have := HC.out; rw [e1] at this; exact this
          obtain ⟨c0, c1, c2, c3⟩ := four_cells hcw
          have v0 : wo.cell? ⟨V, (j + 1) * 4, none⟩ = some (.string s2) := cell_kp HK.out (HV9.out (j + 1) 0 _ (by omega) (by omega) (by rw [e2]; rfl)) (show V ≠ C by omega)
          have v1 : wo.cell? ⟨V, (j + 1) * 4 + 1, none⟩ = some (.bool q2) := cell_kp HK.out (HV9.out (j + 1) 1 _ (by omega) (by omega) (by rw [e2]; rfl)) (show V ≠ C by omega)
          have v2 : wo.cell? ⟨V, (j + 1) * 4 + 2, none⟩ = some (.bool i2) := cell_kp HK.out (HV9.out (j + 1) 2 _ (by omega) (by omega) (by rw [e2]; rfl)) (show V ≠ C by omega)
          have v3 : wo.cell? ⟨V, (j + 1) * 4 + 3, none⟩ = some (.int .i64 n2) := cell_kp HK.out (HV9.out (j + 1) 3 _ (by omega) (by omega) (by rw [e2]; rfl)) (show V ≠ C by omega)
          have lC := lt_of_row hcw
          have lV := World.block_lt_of_cell? wo _ v0
          have HCW : Hid (wo.heap[C]? = some (.cells #[.string s1, .bool q1, .bool i1, .int .i64 n1] 32 (0, 0))) := hcw
          have HCU : Hid (cur a q o (j + 1) = (if ans (o j) (way (cur a q o j).1 (a (j + 1)) (cur a q o j).2 (q (j + 1))) = true then 1 else 0, false)) := rfl
          generalize ans (o j) (way (cur a q o j).1 (a (j + 1)) (cur a q o j).2 (q (j + 1))) = R at *
          clear e1 e1' e2 e2' hcw HC
          go_upto_region 27 with fail
          go_cut [141] (fun v wx => v = .bool R ∧ Kp (fun _ => True) wo wx)
          case first =>
            have hjk : j ≤ 100000 := by omega
            have hj0 : (0 : Int) ≤ (j : Int) := by omega
            have hju : (0 : Int) ≤ (j : Int) + 1 := by omega
            have hjt : ((j : Int) + 1).toNat = j + 1 := by omega
            have hw1 := wr_a j hjk
            have hw2 := wr_b j hjk
            have hw3 := wr_c j hjk
            have hw4 := wr_d j hjk
            clear HI HMX HTL HX9 HP9 HV9 HC0 B9 BW HK HCU HCW
            go_region_held (fun w' => w'.cell? ⟨sb, soff + j, none⟩ = some (.int .u8 x) ∧ w'.cell? ⟨C, 0, none⟩ = some (.string s1) ∧ w'.cell? ⟨C, 1, none⟩ = some (.bool q1) ∧ w'.cell? ⟨C, 2, none⟩ = some (.bool i1) ∧ w'.cell? ⟨C, 3, none⟩ = some (.int .i64 n1) ∧ w'.cell? ⟨V, (j + 1) * 4, none⟩ = some (.string s2) ∧ w'.cell? ⟨V, (j + 1) * 4 + 1, none⟩ = some (.bool q2) ∧ w'.cell? ⟨V, (j + 1) * 4 + 2, none⟩ = some (.bool i2) ∧ w'.cell? ⟨V, (j + 1) * 4 + 3, none⟩ = some (.int .i64 n2)) (first | go_keep | exact keepS hkA (by first | assumption | go_keep)) (first | (go_at_call 4; refine (cB _).mono ?_; rintro e w' ⟨rfl, rfl⟩) | (go_at_call 7; refine (cA _).mono ?_; rintro e w' ⟨rfl, hkA⟩))
            go_wp2_with fail
            go_meet
            case rel => exact ⟨rfl, (Kp.refl _ _).drew.trans hkA⟩
          case rest =>
            obtain ⟨rfl, hkc⟩ := hcut
            have hcc := hkc.row HCW.out trivial
            obtain ⟨d0, d1, d2, d3⟩ := four_cells hcc
            have f0 := frozen_of_row wc C 0 _ 32 hcc
            have f1 := frozen_of_row wc C 1 _ 32 hcc
            have f2 := frozen_of_row wc C 2 _ 32 hcc
            have f3 := frozen_of_row wc C 3 _ 32 hcc
            have lCc := lt_of_row hcc
            have HCC : Hid (wc.heap[C]? = some (.cells #[.string s1, .bool q1, .bool i1, .int .i64 n1] 32 (0, 0))) := hcc
            have HKC : Hid (Kp (fun z => z ≠ C) w9 wc) := HK.out.trans (hkc.mono (fun _ _ _ => trivial))
            clear hkc hcc c0 c1 c2 c3 v0 v1 v2 v3 HCW cA cB
            cases R
            · go_wp2_with fail
              go_roundg (k - (j + 1))
              case measure => omega
              case rel =>
                refine ⟨j + 1, hlt, rfl, by go_num, ?_, ((((HKC.out.setCell (by simp) _).setCell (by simp) _).setCell (by simp) _).setCell (by simp) _)⟩
                rw [HCU.out]
                have g1 := set_row (cs := [.string s1, .bool q1, .bool i1, .int .i64 n1]) HCC.out 0 (.string ⟨#[48]⟩)
                have g2 := set_row g1 1 (.bool false)
                have g3 := set_row g2 2 (.bool true)
                have g4 := set_row g3 3 (.int .i64 0)
                exact g4
            · go_wp2_with fail
              go_roundg (k - (j + 1))
              case measure => omega
              case rel =>
                refine ⟨j + 1, hlt, rfl, by go_num, ?_, ((((HKC.out.setCell (by simp) _).setCell (by simp) _).setCell (by simp) _).setCell (by simp) _)⟩
                rw [HCU.out]
                have g1 := set_row (cs := [.string s1, .bool q1, .bool i1, .int .i64 n1]) HCC.out 0 (.string ⟨#[49]⟩)
                have g2 := set_row g1 1 (.bool false)
                have g3 := set_row g2 2 (.bool true)
                have g4 := set_row g3 3 (.int .i64 1)
                exact g4
        · obtain rfl : j = k := by omega
          have hx := HK.out.row HX9.out (show X ≠ C by omega)
          have hp9 := HK.out.row HP9.out (show P ≠ C by omega)
          obtain ⟨c0, c1, c2, c3⟩ := four_cells (show wo.heap[C]? = some (.cells #[.string (txt (cur a q o j).1), .bool (cur a q o j).2, .bool (isI (cur a q o j).1 && !(cur a q o j).2), .int .i64 (if (cur a q o j).2 then 0 else num (cur a q o j).1)] 32 (0, 0)) from HC.out)
          obtain ⟨x0, x1, _, _⟩ := two_cells hx
          obtain ⟨p0, p1, _, _⟩ := two_cells hp9
          have lX := lt_of_row hx
          have lP := lt_of_row hp9
          have lC := lt_of_row HC.out
          have BW : Hid (Below w.heap.size w wo) := B9.out.trans (HK.out.below B9.out.size (fun z hz => by omega))
          clear hx hp9 HC HK HX9 HP9 HV9 HC0 B9 c2 c3
          generalize txt (cur a q o j).1 = cs at *
          generalize (cur a q o j).2 = cb at *
          cases tail
          · have hn : ((2 * j + 1 : Nat) : Int) = ((allT a q o (j + 1) false false).length : Int) := by rw [HTL.out]; rfl
            rw [hn] at p1
            generalize (allT a q o (j + 1) false false).length = n at *
            go_wp2_with fail
            go_ret
            exact ⟨rfl, BW.out⟩
          · have hn : ((2 * j + 1 : Nat) : Int) = ((allT a q o (j + 1) false true).length : Int) - 1 := by
              rw [HTL.out, show (dg false ++ tl true).length = 1 from rfl]; omega
            rw [hn] at p1
            have hnn : (allT a q o (j + 1) false true).length ≤ 100000 := by have := HTL.out; rw [show (dg false ++ tl true).length = 1 from rfl] at this; omega
            have hnp : 0 < (allT a q o (j + 1) false true).length := by have := HTL.out; omega
            generalize (allT a q o (j + 1) false true).length = n at *
            go_wp2_with fail
            go_ret
            exact ⟨rfl, BW.out⟩
    · go_wp2_with fail
      refine (comparison_err F P T tcap _ _ HPS.out (k + 1) (by omega) (by omega) a q o HI.out.a12 HI.out.o6 (fun i hi => all_val a q o k true tail i hi) (fun i hi => all_op a q o k true tail i hi) (fun i hi => all_stp a q o HI.out.o6 k true tail i hi) (all_dng a q o k tail) HF3.out ev HEV3.out HEV2.out (by omega)).mono ?_
      rintro e w7 ⟨⟨s7, b7, t7, x7, rfl⟩, hk7⟩
      have B7 : Hid (Below w.heap.size w w7) := HBW.out.trans (hk7.below HBW.out.size (fun z hz => by omega))
      clear hk7
      go_wp2_with fail
      go_ret
      exact ⟨rfl, B7.out.trans (((Kp.refl (fun _ => True) w7).alloc _).below B7.out.size (fun _ _ => trivial))⟩
end Go.Proofs.YbulkawlyFmt.Fo
