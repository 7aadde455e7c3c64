/-
  THE SHELL OF A PROOF OF 'Rows.LawS2381AKeepSaid' ('example.com/libsanction/libsanction.LawS2381AKeep'), WRITTEN BY PROGRAM (proof-skeleton.mjs, third state) off the guide's own print for that function. Not trusted: Lean checks it.
  THE HOLE IS FILLED: the walk stands in YbulkawhcKeepWalk.lean; all else is the shell's own text.
-/
import Derived.Test.YbulkawhcRows
import Derived.Test.YbulkawhcKeepWalk
import Derived.WalkKit
import Derived.ProofKit
import Derived.OpenShut
import Derived.ShutString
import Derived.ChangeOld
import Derived.Below
namespace Go.Proofs.Ybulkawhc.lawS2381AKeep
open Go.ChangeShapes Go.WideShapes Go.ChangeAt Go.RowKit
open Go.ChangeMaps (open_string shut_string)
set_option linter.unusedVariables false

theorem own : ownKnob Yba.prog.godebug = none := by kernel_rfl
theorem laidOut : laidOutB Yba.prog = true := by kernel_rfl

/-- WHAT THE WALK IS TOLD OF A SLICE OF INTEGERS THAT CAME IN: it is nil; or it leads to a row of 'cap' cells, the numbers 'zs' (the first 'len' are its elements, the rest its spare room), each fitting its kind. -/
def IsRow (k : IntKind) (w : World) (a : Option Addr) (len cap : Nat) (zs : List Int) : Prop :=
  (a = none ∧ len = 0 ∧ cap = 0 ∧ zs = []) ∨
  ∃ x, a = some x ∧ len ≤ cap ∧ cap ≤ maxLen ∧ zs.length = cap ∧ (∀ i, i < zs.length → w.cell? (x.add i) = some (.int k (zs.getD i 0))) ∧ ∀ n ∈ zs, (Lit.int k n).wf = true

theorem take_cells {w : World} {b off len : Nat} {k : IntKind} {zs : List Int} (hl : len ≤ zs.length) (hc : ∀ i, i < zs.length → w.cell? ((⟨b, off, none⟩ : Addr).add i) = some (.int k (zs.getD i 0))) :
    ∀ i, i < (zs.take len).length → w.cell? ⟨b, off + i, none⟩ = some (.int k ((zs.take len).getD i 0)) := by
  intro i hi
  have hi' : i < len := by simp at hi; omega
  have h := hc i (by omega)
  rw [Addr.add_lit] at h
  rw [h]
  simp [List.getD, hi']

/-! ### STEP 1: THE WALK: the Go text returns true, AND WRITES NOTHING THAT WAS THERE: 'Below w.heap.size w w'' (Derived/Below.lean: '.refl', '.alloc', '.drew', '.setCell' at a new block, '.trans'). Open each 'IsRow' by 'rcases' AHEAD of 'go_enter'; part every test ahead of the walk. -/
theorem walk (a0 : Option Addr) (len0 cap0 : Nat) (z0 : List Int) (a1 : Int) (a2 : Option Addr) (len2 cap2 : Nat) (z2 : List Int) (a3 : Bool) (a4 : Int) (w : World) (w0 : IsRow .u32 w a0 len0 cap0 z0) (w1 : (Lit.int .u32 a1).wf = true) (w2 : IsRow .i64 w a2 len2 cap2 z2) (w4 : (Lit.int .u64 a4).wf = true) :
    Calls Yba.prog 3 #[.slice a0 len0 cap0, .int .u32 a1, .slice a2 len2 cap2, .bool a3, .int .u64 a4] w fun e w' => e = .returned (.bool true) ∧ Below w.heap.size w w' := by
  have hw4 : 0 ≤ a4 := by have := bounds_u64 w4; omega
  by_cases hout : len0 = 0 ∨ 1024 < len0 ∨ 1024 < len2
  · exact Kee.law_out a0 len0 cap0 a1 a2 len2 cap2 a3 a4 w hout
  rcases w0 with ⟨rfl, rfl, rfl, rfl⟩ | ⟨x, rfl, hl0, _, hz0, hc0, _⟩
  · exact absurd (Or.inl rfl) hout
  obtain ⟨b, off, rfl⟩ : ∃ b off, x = ⟨b, off, none⟩ := Kee.spot_none (hc0 0 (by omega))
  have hlen0 : (z0.take len0).length = len0 := by simp; omega
  have hc0' : ∀ i, i < (z0.take len0).length → w.cell? ⟨b, off + i, none⟩ = some (.int .u32 ((z0.take len0).getD i 0)) := take_cells (by omega) hc0
  generalize z0.take len0 = ms at hlen0 hc0'
  subst hlen0
  obtain ⟨c, hc4⟩ := Int.eq_ofNat_of_zero_le (Int.emod_nonneg a4 (show (ms.length : Int) ≠ 0 by omega))
  have hclt : c < ms.length := by have := Int.emod_lt_of_pos a4 (show (0 : Int) < (ms.length : Int) by omega); omega
  rcases w2 with ⟨rfl, rfl, rfl, rfl⟩ | ⟨y, rfl, hl2, _, hz2, hc2, _⟩
  · by_cases hxa : ms.getD c 0 = a1
    · exact Kee.law_nil_was b off cap0 ms a1 a3 a4 w (by omega) (by omega) hc0' hw4 c hc4 hclt _ rfl hxa
    · exact Kee.law_nil_new b off cap0 ms a1 a3 a4 w (by omega) (by omega) hc0' hw4 c hc4 hclt _ rfl (by simpa using hxa)
  · have hlen2 : (z2.take len2).length = len2 := by simp; omega
    have hck : ∀ i, i < (z2.take len2).length → w.cell? (y.add i) = some (.int .i64 ((z2.take len2).getD i 0)) := by
      intro i hi
      have hi' : i < len2 := by simp at hi; omega
      rw [hc2 i (by omega)]
      simp [List.getD, hi']
    generalize z2.take len2 = ks at hlen2 hck
    subst hlen2
    by_cases hxa : ms.getD c 0 = a1
    · exact Kee.law_some_was b off cap0 ms a1 a3 a4 w (by omega) (by omega) hc0' hw4 c hc4 hclt _ rfl hxa y cap2 ks (by omega) hck
    · exact Kee.law_some_new b off cap0 ms a1 a3 a4 w (by omega) (by omega) hc0' hw4 c hc4 hclt _ rfl (by simpa using hxa) y cap2 ks (by omega) hck

/-! ### THE ROW's STEP: WRITTEN OUT: LEAVE IT -/
set_option maxRecDepth 100000 in
theorem lifted (os : Os) (started : os.Started) (H : Type) (enc : TypeId × Value → H) :
    ReturnsInHanded {} Yba.checked os 3 .any (Rows.lawS2381AKeepSpec.pre6 enc Yba.prog Yba.f3 Rows.lawS2381AKeepRow.domain false) (Rows.lawS2381AKeepSpec.post enc Yba.prog Yba.f3 false true false false) := by
  refine returnsInHanded_of_change (C := Yba.checked) own started (by kernel_rfl) Yba.func3
    (ChangeSpec.witness6 (enc := enc) (C := Yba.checked) false ⟨#[], #[.slice none 0 0, .int .u32 0, .slice none 0 0, .bool false, .int .u64 0], []⟩ 8 (by kernel_rfl) (by kernel_rfl) (by kernel_rfl) (by kernel_rfl)) ?_
  intro W base args ds gs before hval0 hW hcnd _
  have hval : ∀ (j : Nat) t v, Yba.f3.params[j]? = some t → args[j]? = some v → Value.okWide Yba.prog W .any base t v := hval0
  have hW' := hW
  obtain ⟨p, q, hA0, hV, rfl, hfz, hnd⟩ := hW
  have hA : DataW.TrodAll enc Yba.prog W 0 (fun _ => true) true Yba.f3.params.toList args.toList ds p := hA0
  rw [Yba.params3] at hA hval
  obtain ⟨v0, vs0, d0, ds0, p0, q0, hargs, rfl, rfl, h0, r0⟩ := trodAll_cons hA
  obtain ⟨v1, vs1, d1, ds1, p1, q1, rfl, rfl, rfl, h1, r1⟩ := trodAll_cons r0
  obtain ⟨v2, vs2, d2, ds2, p2, q2, rfl, rfl, rfl, h2, r2⟩ := trodAll_cons r1
  obtain ⟨v3, vs3, d3, ds3, p3, q3, rfl, rfl, rfl, h3, r3⟩ := trodAll_cons r2
  obtain ⟨v4, vs4, d4, ds4, p4, q4, rfl, rfl, rfl, h4, r4⟩ := trodAll_cons r3
  obtain ⟨rfl, rfl, rfl⟩ := trodAll_nil r4
  obtain rfl : args = #[v0, v1, v2, v3, v4] := by cases args; simp_all
  obtain ⟨rfl, rfl⟩ := trodVars_none hV
  obtain ⟨a0, len0, cap0, rfl⟩ := okWide_slice Yba.underlying22 (hval 0 22 v0 rfl rfl)
  have k0 := h0
  have lt0 : ∀ x ∈ p0, x.block < W.heap.size := by obtain ⟨m, hm⟩ := k0; exact DataW.trod_lt m _ _ _ hm
  obtain ⟨z0, w0⟩ : ∃ zs, IsRow .u32 W a0 len0 cap0 zs := by
    obtain ⟨fuel, hf⟩ := h0
    rcases open_ints Yba.underlying22 Yba.underlying23 (by kernel_rfl) hf with ⟨hcs, _⟩ | ⟨x, l, c, zs, hcs, _, hl, hm, hz, _, hcell, hwz⟩
    · simp [Value.cells] at hcs
      obtain ⟨rfl, rfl, rfl⟩ := hcs
      exact ⟨[], .inl ⟨rfl, rfl, rfl, rfl⟩⟩
    · simp [Value.cells] at hcs
      obtain ⟨rfl, rfl, rfl⟩ := hcs
      exact ⟨zs, .inr ⟨_, rfl, hl, hm, by simpa using hz, hcell, hwz⟩⟩
  obtain ⟨a1, rfl, rfl, rfl, w1⟩ := open_int Yba.underlying23 (hval 1 23 v1 rfl rfl) h1
  obtain ⟨a2, len2, cap2, rfl⟩ := okWide_slice Yba.underlying24 (hval 2 24 v2 rfl rfl)
  have k2 := h2
  have lt2 : ∀ x ∈ p2, x.block < W.heap.size := by obtain ⟨m, hm⟩ := k2; exact DataW.trod_lt m _ _ _ hm
  obtain ⟨z2, w2⟩ : ∃ zs, IsRow .i64 W a2 len2 cap2 zs := by
    obtain ⟨fuel, hf⟩ := h2
    rcases open_ints Yba.underlying24 Yba.underlying3 (by kernel_rfl) hf with ⟨hcs, _⟩ | ⟨x, l, c, zs, hcs, _, hl, hm, hz, _, hcell, hwz⟩
    · simp [Value.cells] at hcs
      obtain ⟨rfl, rfl, rfl⟩ := hcs
      exact ⟨[], .inl ⟨rfl, rfl, rfl, rfl⟩⟩
    · simp [Value.cells] at hcs
      obtain ⟨rfl, rfl, rfl⟩ := hcs
      exact ⟨zs, .inr ⟨_, rfl, hl, hm, by simpa using hz, hcell, hwz⟩⟩
  obtain ⟨a3, rfl, rfl, rfl⟩ := open_bool Yba.underlying4 (hval 3 4 v3 rfl rfl) h3
  obtain ⟨a4, rfl, rfl, rfl, w4⟩ := open_int Yba.underlying25 (hval 4 25 v4 rfl rfl) h4
  clear hA0 hval0
  refine (walk a0 len0 cap0 z0 a1 a2 len2 cap2 z2 a3 a4 W w0 w1 w2 w4).mono fun e W' ⟨he, bel⟩ => ?_
  subst he
  exact ⟨_, rfl, _, _, _, [], _, [], hW', trodAll_mk1 (shut_bool Yba.underlying4 _), (trodAll_cons_mk (Below.trod laidOut (by kernel_rfl) (of_decide_eq_true (by kernel_rfl)) k0 bel lt0) (trodAll_cons_mk (shut_int Yba.underlying23 w1) (trodAll_cons_mk (Below.trod laidOut (by kernel_rfl) (of_decide_eq_true (by kernel_rfl)) k2 bel lt2) (trodAll_cons_mk (shut_bool Yba.underlying4 _) (trodAll_cons_mk (shut_int Yba.underlying25 w4) trodAll_mk0))))), rfl, bel.frame _, fun h => by cases h⟩

theorem over : Rows.lawS2381AKeepRow.holds Yba.pinned (OpenSpec.ofChange Rows.lawS2381AKeepSpec) :=
  OpenClaim.holds_of_wide 3 Yba.f3 rfl rfl rfl rfl rfl rfl rfl ⟨rfl, rfl, rfl, rfl, rfl⟩ rfl rfl rfl rfl rfl (by kernel_rfl) Yba.func3 (by kernel_rfl)
    (of_decide_eq_true (by kernel_rfl)) (by unfold Func.isWrapper; first | (rw [if_pos (by decide +kernel)]; kernel_rfl) | (rw [if_neg (by decide +kernel)]; exact ⟨rfl, rfl⟩))
    (fun os started H enc _ => lifted os started H enc)

/-- ████ THE STATEMENT ████ -/
theorem proved : Rows.LawS2381AKeepSaid := over
#print axioms proved
end Go.Proofs.Ybulkawhc.lawS2381AKeep
