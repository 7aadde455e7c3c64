/-
  'Rows.LawS2390AFoldToldSaid' ('dialplan.LawS2390AFold'): the told and tied card; the frame after the guide's IpowTold; the walks stand in YbulkawlyFmtFold.lean, YbulkawlyFmtNone.lean.
-/
import Derived.Test.YbulkawlyFmtRows
import Derived.Test.YbulkawlyFmtCards
import Derived.Test.YbulkawlyFmtTie
import Derived.Test.YbulkawlyFmtFold
import Derived.Test.YbulkawlyFmtNone
import Derived.ProofKit
import Derived.OpenShut
import Derived.Below
import Derived.Lay
import Derived.LaidMore
import Derived.SevenTiedAt
import Derived.Stop.JoinedTold
import Derived.Stop.LaidErr
import Derived.Deep.Grids
namespace Go.Proofs.YbulkawlyFmt.lawS2390AFold
open Go.ChangeShapes Go.WideShapes Go.ChangeAt Go.RowKit Go.Stop
open Go.Proofs.YbulkawlyFmt.Fo (ArgI ArgB Inp)
set_option linter.unusedVariables false

theorem own : ownKnob Ybaf.prog.godebug = none := by kernel_rfl
theorem laidOut : laidOutB Ybaf.pinned.checked.prog = true := by kernel_rfl
theorem stops : Ybaf.pinned.checked.prog.stops = ["fmt.errorf"] := by kernel_rfl
theorem stopKnobs : Ybaf.pinned.checked.prog.stopKnobs = [] := by kernel_rfl
theorem quiet (os : Os) : Stop.quiet Ybaf.pinned.checked.prog os := by
  intro k hk
  rw [stopKnobs] at hk
  cases hk
theorem gS : Ybaf.prog.globalNamed "strconv.ErrSyntax" = some 1 := by kernel_rfl
theorem gSType : (Ybaf.prog.globals[1]?).map (·.type) = some 38 := by kernel_rfl
theorem cells71 : Ybaf.prog.cellsOf 71 = 1 := by kernel_rfl
theorem cells9 : Ybaf.prog.cellsOf 9 = 1 := by kernel_rfl
theorem star : "*" ++ "errors.errorString" = "*errors.errorString" := by decide
theorem row69 (u : TypeId) (h : Ybaf.prog.typeName? 3 u = some "*errors.errorString") : u = 69 :=
  typeName_ptr_named (nm := "errors.errorString") (by rw [star]; kernel_rfl) (by kernel_rfl) (by decide) u (by rw [star]; exact h)

theorem spot_none {w : World} {x : Addr} {v : Value} (h : w.cell? (x.add 0) = some v) : ∃ b off, x = ⟨b, off, none⟩ := by
  obtain ⟨b, off, spot⟩ := x
  have : spot = none := by simpa [Addr.add] using World.cell?_spot h
  exact ⟨b, off, by rw [this]⟩

theorem walk (F : Interp) (po oo qo : Option Addr) (l0 c0 l1 c1 l2 c2 : Nat) (tail dangle : Bool) (w : World) (ps os : List Int) (qs : List Bool) (h0 : ps.length = l0) (h1 : os.length = l1) (h2 : qs.length = l2)
    (k0 : ArgI w po ps) (k1 : ArgI w oo os) (k2 : ArgB w qo qs) (p0 : ∀ i, 0 ≤ ps.getD i 0) (p1 : ∀ i, 0 ≤ os.getD i 0) (ev : Value) (hev : w.cell? ⟨1, 0, none⟩ = some ev) (hev2 : ev = .nilIface ∨ ∃ te pe, ev = .iface te pe) (hF : F.answers w.tape) :
    Calls Ybaf.prog 3 #[.slice po l0 c0, .slice oo l1 c1, .slice qo l2 c2, .bool tail, .bool dangle] w fun e w' => e = .returned (.bool true) ∧ Below w.heap.size w w' := by
  subst h0 h1 h2
  by_cases hout : 1024 < ps.length ∨ 1024 < os.length ∨ 1024 < qs.length
  · exact Fo.law_out po oo qo _ c0 _ c1 _ c2 tail dangle w hout
  have hw1 : 1 < w.heap.size := World.block_lt_of_cell? w _ hev
  by_cases hz : ps.length = 0
  · rw [hz]
    cases tail
    · exact Fo.law_none_false F po oo qo c0 c1 c2 _ _ w (by omega) (by omega) hw1 hF dangle
    · exact Fo.law_none_true F po oo qo c0 c1 c2 _ _ w (by omega) (by omega) hw1 hF dangle
  have hi : Inp w po oo qo ps os qs (fun i => (ps.getD i 0 % 12).toNat) (fun i => qs.getD i false) (fun i => (os.getD i 0 % 6).toNat) := by
    refine ⟨k0, k1, k2, fun i => ?_, fun i => ?_, fun i _ => ⟨?_, p0 i⟩, fun i _ => ⟨?_, p1 i⟩, fun i _ => rfl, fun i h => ?_⟩
    · have := Int.emod_lt_of_pos (ps.getD i 0) (show (0 : Int) < 12 by omega)
      have := Int.emod_nonneg (ps.getD i 0) (show (12 : Int) ≠ 0 by omega)
      show (ps.getD i 0 % 12).toNat < 12
      omega
    · have := Int.emod_lt_of_pos (os.getD i 0) (show (0 : Int) < 6 by omega)
      have := Int.emod_nonneg (os.getD i 0) (show (6 : Int) ≠ 0 by omega)
      show (os.getD i 0 % 6).toNat < 6
      omega
    · have := Int.emod_nonneg (ps.getD i 0) (show (12 : Int) ≠ 0 by omega)
      exact (Int.toNat_of_nonneg this).symm
    · have := Int.emod_nonneg (os.getD i 0) (show (6 : Int) ≠ 0 by omega)
      exact (Int.toNat_of_nonneg this).symm
    · show qs.getD i false = false
      simp [List.getD, Nat.le_of_not_lt h]
  by_cases hm : ps.length ≤ os.length + 1
  · exact Fo.law_ok F po oo qo c0 c1 c2 ps os qs _ _ _ w hi (by omega) (by omega) (by omega) ps.length (by omega) (by omega) (by omega) (.inl rfl) ev hev hev2 hF tail dangle
  · exact Fo.law_ok F po oo qo c0 c1 c2 ps os qs _ _ _ w hi (by omega) (by omega) (by omega) (os.length + 1) (by omega) (by omega) (by omega) (.inr rfl) ev hev hev2 hF tail dangle

/-- One row's numbers. -/
theorem one_row {w : World} {a : Addr} {l c : Nat} {zs : List Int} (hl : l ≤ c) (hz : zs.length = c) (hw : ∀ n ∈ zs, (Lit.int .u8 n).wf = true)
    (hc : ∀ i, i < c → w.cell? (a.add i) = some (.int .u8 (zs.getD i 0))) :
    (zs.take l).length = l ∧ ArgI w (some a) (zs.take l) ∧ ∀ i, 0 ≤ (zs.take l).getD i 0 := by
  have hlen : (zs.take l).length = l := by simp; omega
  refine ⟨hlen, fun i hi => ?_, fun i => ?_⟩
  · obtain ⟨b, off, rfl⟩ : ∃ b off, a = ⟨b, off, none⟩ := spot_none (hc 0 (by omega))
    refine ⟨b, off, rfl, ?_⟩
    have hi' : i < l := by omega
    have h := hc i (by omega)
    rw [Addr.add_lit] at h
    rw [h]
    simp [List.getD, hi']
  · by_cases hi : i < (zs.take l).length
    · have hmem : (zs.take l).getD i 0 ∈ zs := by
        rw [show (zs.take l).getD i 0 = (zs.take l)[i] by simp only [List.getD, List.getElem?_eq_getElem hi, Option.getD_some]]
        exact List.mem_of_mem_take (List.getElem_mem hi)
      have := bounds_u8 (hw _ hmem)
      omega
    · simp only [List.getD, List.getElem?_eq_none (Nat.le_of_not_lt hi), Option.getD_none]
      omega

set_option maxRecDepth 100000 in
theorem lifted (os : Os) (started : os.Started) (H : Type) (enc : TypeId × Value → H) :
    ReturnsInTold none {} Ybaf.checked os 3 .any Input.okWide ((OpenSpec.ofChange Rows.lawS2390AFoldSpec).preRow enc Ybaf.prog Ybaf.f3 [] false Rows.lawS2390AFoldRow.laid) (fun F => ((OpenSpec.ofChange Rows.lawS2390AFoldSpec).at F).post enc Ybaf.prog Ybaf.f3 false true false false) (aloneAtReturn Ybaf.prog) nothingAlways := by
  refine returnsInTold_of_row (C := Ybaf.checked) (s := OpenSpec.ofChange Rows.lawS2390AFoldSpec) (by kernel_rfl) own started (by kernel_rfl) Ybaf.func3
    (OpenSpec.witness_stopped_at (enc := enc) (C := Ybaf.checked) false (World.laidAll Ybaf.prog os Rows.lawS2390AFoldRow.laid) #[.slice none 0 0, .slice none 0 0, .slice none 0 0, .bool false, .bool false] (World.laidAll_os _ _ _) (by kernel_rfl) (by kernel_rfl) (by kernel_rfl)
      (OpenSpec.preRow_of_B rfl 8 (by kernel_rfl) (by kernel_rfl) (by rw [MakeChecks.laidMetH_plain _ _ _ (by kernel_rfl)]; exact laidMet_laidAll _ (by kernel_rfl) (by kernel_rfl)))) ?_
  intro F W base0 args ds gs before _ hF hval0 hW _ _ _ hL _
  have hval : ∀ (j : Nat) t v, Ybaf.f3.params[j]? = some t → args[j]? = some v → Value.okWide Ybaf.prog W .any base0 t v := hval0
  have hW' := hW
  obtain ⟨p, q, hA0, hV, rfl, hfz, hnd⟩ := hW
  have hA : DataW.TrodAll enc Ybaf.prog W 0 (fun _ => true) true Ybaf.f3.params.toList args.toList ds p := hA0
  rw [Ybaf.params3] at hA hval
  obtain ⟨v0, vs0, d0, ds0, p0, q0, hargs, rfl, rfl, h0, r0⟩ := trodAll_cons hA
  obtain ⟨v1, vs1, d1, ds1, p1, q1, rfl, rfl, rfl, h1, r1⟩ := trodAll_cons r0
  obtain ⟨v2, vs2, d2, ds2, p2, q2, rfl, rfl, rfl, h2, r2⟩ := trodAll_cons r1
  obtain ⟨v3, vs3, d3, ds3, p3, q3, rfl, rfl, rfl, h3, r3⟩ := trodAll_cons r2
  obtain ⟨v4, vs4, d4, ds4, p4, q4, rfl, rfl, rfl, h4, r4⟩ := trodAll_cons r3
  obtain ⟨rfl, rfl, rfl⟩ := trodAll_nil r4
  obtain rfl : args = #[v0, v1, v2, v3, v4] := by cases args; simp_all
  obtain ⟨rfl, rfl⟩ := trodVars_none hV
  have hL2 : laidMetH Ybaf.prog Rows.lawS2390AFoldRow.laid W := hL
  rw [MakeChecks.laidMetH_plain _ _ _ (by kernel_rfl)] at hL2
  obtain ⟨e1, e2, hv1, _, _, _⟩ := laid_sentinel (laidMet.tail (laidMet.tail (laidMet.tail (laidMet.tail hL2)))) gS gSType Ybaf.underlying38 row69 Ybaf.underlying69 Ybaf.underlying71 rfl rfl Ybaf.underlying9 cells71 cells9
  have hev : W.cell? ⟨1, 0, none⟩ = some (.iface 69 (.pointer (some e1))) := by simpa using World.var?_cell gS hv1 0
  obtain ⟨a0, len0, cap0, rfl⟩ := okWide_slice Ybaf.underlying22 (hval 0 22 v0 rfl rfl)
  obtain ⟨a1, len1, cap1, rfl⟩ := okWide_slice Ybaf.underlying22 (hval 1 22 v1 rfl rfl)
  obtain ⟨a2, len2, cap2, rfl⟩ := okWide_slice Ybaf.underlying23 (hval 2 23 v2 rfl rfl)
  obtain ⟨b3, rfl, rfl, rfl⟩ := open_bool Ybaf.underlying4 (hval 3 4 v3 rfl rfl) h3
  obtain ⟨b4, rfl, rfl, rfl⟩ := open_bool Ybaf.underlying4 (hval 4 4 v4 rfl rfl) h4
  have k0 := h0
  have k1 := h1
  have k2 := h2
  have lt0 : ∀ x ∈ p0, x.block < W.heap.size := by obtain ⟨m, hm⟩ := k0; exact DataW.trod_lt m _ _ _ hm
  have lt1 : ∀ x ∈ p1, x.block < W.heap.size := by obtain ⟨m, hm⟩ := k1; exact DataW.trod_lt m _ _ _ hm
  have lt2 : ∀ x ∈ p2, x.block < W.heap.size := by obtain ⟨m, hm⟩ := k2; exact DataW.trod_lt m _ _ _ hm
  obtain ⟨z0, n0, y0, x0⟩ : ∃ zs : List Int, zs.length = len0 ∧ ArgI W a0 zs ∧ ∀ i, 0 ≤ zs.getD i 0 := by
    obtain ⟨fuel, hf⟩ := h0
    rcases open_ints Ybaf.underlying22 Ybaf.underlying5 (by kernel_rfl) hf with ⟨hcs, _⟩ | ⟨x, l, c, zs, hcs, _, hl, hm, hz, _, hcell, hwz⟩
    · simp [Value.cells] at hcs
      obtain ⟨rfl, rfl, rfl⟩ := hcs
      exact ⟨[], rfl, fun i hi => absurd hi (by simp), fun i => by simp⟩
    · simp [Value.cells] at hcs
      obtain ⟨rfl, rfl, rfl⟩ := hcs
      have hzc : zs.length = cap0 := by simpa using hz
      exact ⟨zs.take len0, one_row hl hzc hwz (fun i hi => hcell i (by omega))⟩
  obtain ⟨z1, n1, y1, x1⟩ : ∃ zs : List Int, zs.length = len1 ∧ ArgI W a1 zs ∧ ∀ i, 0 ≤ zs.getD i 0 := by
    obtain ⟨fuel, hf⟩ := h1
    rcases open_ints Ybaf.underlying22 Ybaf.underlying5 (by kernel_rfl) hf with ⟨hcs, _⟩ | ⟨x, l, c, zs, hcs, _, hl, hm, hz, _, hcell, hwz⟩
    · simp [Value.cells] at hcs
      obtain ⟨rfl, rfl, rfl⟩ := hcs
      exact ⟨[], rfl, fun i hi => absurd hi (by simp), fun i => by simp⟩
    · simp [Value.cells] at hcs
      obtain ⟨rfl, rfl, rfl⟩ := hcs
      have hzc : zs.length = cap1 := by simpa using hz
      exact ⟨zs.take len1, one_row hl hzc hwz (fun i hi => hcell i (by omega))⟩
  obtain ⟨z2, n2, y2⟩ : ∃ bs : List Bool, bs.length = len2 ∧ ArgB W a2 bs := by
    obtain ⟨fuel, hf⟩ := h2
    rcases Deep.open_bools Ybaf.underlying23 Ybaf.underlying4 (by kernel_rfl) hf with ⟨hcs, _⟩ | ⟨x, l, c, B, hcs, _, hl, hm, _, hcell⟩
    · simp [Value.cells] at hcs
      obtain ⟨rfl, rfl, rfl⟩ := hcs
      exact ⟨[], rfl, fun i hi => absurd hi (by simp)⟩
    · simp [Value.cells] at hcs
      obtain ⟨rfl, rfl, rfl⟩ := hcs
      refine ⟨(List.range len2).map B, by simp, fun i hi => ?_⟩
      have hi' : i < len2 := by simpa using hi
      obtain ⟨b, off, rfl⟩ : ∃ b off, x = ⟨b, off, none⟩ := spot_none (hcell 0 (by omega))
      refine ⟨b, off, rfl, ?_⟩
      have h := hcell i (by omega)
      rw [Addr.add_lit] at h
      rw [h]
      simp [List.getD, hi']
  clear hA0 hval0
  refine (walk F.told a0 a1 a2 len0 cap0 len1 cap1 len2 cap2 b3 b4 W z0 z1 z2 n0 n1 n2 y0 y1 y2 x0 x1 _ hev (.inr ⟨_, _, rfl⟩) hF).mono fun e W' ⟨he, bel⟩ => ?_
  subst he
  exact ⟨_, rfl, _, _, _, [], _, [], hW', trodAll_mk1 (shut_bool Ybaf.underlying4 _), (trodAll_cons_mk (Below.trod laidOut (by kernel_rfl) (of_decide_eq_true (by kernel_rfl)) k0 bel lt0) (trodAll_cons_mk (Below.trod laidOut (by kernel_rfl) (of_decide_eq_true (by kernel_rfl)) k1 bel lt1) (trodAll_cons_mk (Below.trod laidOut (by kernel_rfl) (of_decide_eq_true (by kernel_rfl)) k2 bel lt2) (trodAll_cons_mk (shut_bool Ybaf.underlying4 _) (trodAll_cons_mk (shut_bool Ybaf.underlying4 _) trodAll_mk0))))), rfl, bel.frame _, fun h => by cases h⟩

theorem over : Claim7.holds Ybaf.pinned (.plain (OpenSpec.ofChange Rows.lawS2390AFoldSpec)) Rows.lawS2390AFoldCard :=
  Claim7.holds_of_told_tied_any_at .later 3 Ybaf.f3 "fmt.errorf" [] [] (true, "3e4c2ce8381bfc435a66ef117376a9bdf635c3a043a89a3c1c477f7913fe1bc2") true false [.data, .data, .data, .sentinel, .sentinel] true (by kernel_rfl) rfl rfl rfl laidOut (by kernel_rfl) rfl ⟨rfl, rfl, rfl, rfl, rfl, rfl, rfl⟩ rfl rfl (by kernel_rfl) (by kernel_rfl) Ybaf.func3 (by kernel_rfl)
    (of_decide_eq_true (by kernel_rfl)) (by unfold Func.isWrapper; first | (rw [if_pos (by decide +kernel)]; kernel_rfl) | (rw [if_neg (by decide +kernel)]; exact ⟨rfl, rfl⟩)) stops.symm rfl stopKnobs.symm (by kernel_rfl)
    (by kernel_rfl) (by kernel_rfl) (by kernel_rfl) (by kernel_rfl) (by kernel_rfl) (by kernel_rfl) (by kernel_rfl) (by kernel_rfl) (by kernel_rfl) rfl (by kernel_rfl) rfl rfl
    rfl rfl
    rfl (by kernel_rfl) (by kernel_rfl) (by kernel_rfl) (by decide) (by kernel_rfl) lawS2390AFold_row_tie
    (OpenClaim.moreEntering_of (by kernel_rfl) (by kernel_rfl) (by kernel_rfl) (by kernel_rfl) (by kernel_rfl) (by kernel_rfl) (by kernel_rfl) (by kernel_rfl) (by kernel_rfl) (by kernel_rfl))
    ⟨_, WideRow.started_initial, quiet _⟩
    (fun os started _ H enc _ => lifted os started H enc)

/-- ████ THE STATEMENT ████ -/
theorem proved : Rows.LawS2390AFoldToldSaid := over
#print axioms proved
end Go.Proofs.YbulkawlyFmt.lawS2390AFold
