/-
  'Rows.LawS2385AScriptSaid' ('bench.LawS2385AScript'): the frame after the guide's shells, the slice of slices opened by 'open_int_rows'; the walk stands in YbulkawjgScrWalk.lean.
-/
import Derived.Test.YbulkawjgRows
import Derived.Test.YbulkawjgScrWalk
import Derived.WalkKit
import Derived.ProofKit
import Derived.OpenShut
import Derived.ShutString
import Derived.ChangeOld
import Derived.Below
import Derived.Deep.Matrix
namespace Go.Proofs.Ybulkawjg.lawS2385AScript
open Go.ChangeShapes Go.WideShapes Go.ChangeAt Go.RowKit
open Go.ChangeMaps (open_string shut_string)
set_option linter.unusedVariables false

theorem own : ownKnob Yba.prog.godebug = none := by kernel_rfl
theorem laidOut : laidOutB Yba.prog = true := by kernel_rfl

theorem spot_none {w : World} {x : Addr} {v : Value} (h : w.cell? (x.add 0) = some v) : ∃ b off, x = ⟨b, off, none⟩ := by
  obtain ⟨b, off, spot⟩ := x
  have : spot = none := by simpa [Addr.add] using World.cell?_spot h
  exact ⟨b, off, by rw [this]⟩

/-- What the walk is told of the slice of slices. -/
def IsRows (w : World) (a : Option Addr) (len : Nat) : Prop :=
  ∃ (A : Nat → Option Addr) (C : Nat → Nat) (Z : Nat → List Int), Scr.Args w a len A C Z ∧ (∀ r i, 0 ≤ (Z r).getD i 0 ∧ (Z r).getD i 0 ≤ 255) ∧ ∀ r, (Z r).length ≤ 9223372036854775807

theorem walk (a0 : Int) (a1 : Option Addr) (len1 cap1 : Nat) (w : World) (w0 : (Lit.int .u8 a0).wf = true) (w1 : IsRows w a1 len1) :
    Calls Yba.prog 3 #[.int .u8 a0, .slice a1 len1 cap1] w fun e w' => e = .returned (.bool true) ∧ Below w.heap.size w w' := by
  have hb0 := bounds_u8 w0
  by_cases hout : 256 < len1
  · exact Scr.law_out a0 a1 len1 cap1 w hout
  obtain ⟨m, hm⟩ := Int.eq_ofNat_of_zero_le (Int.emod_nonneg a0 (show (16 : Int) ≠ 0 by omega))
  have hm16 : m < 16 := by have := Int.emod_lt_of_pos a0 (show (0 : Int) < 16 by omega); omega
  obtain ⟨A, C, Z, hA, hZ, hL⟩ := w1
  exact Scr.law_in a0 a1 len1 cap1 A C Z w m hm hm16 (by omega) (by omega) (by omega) hA hZ hL

/-- One row's elements. -/
theorem one_row {w : World} {a : Option Addr} {l c : Nat} {zs : List Int} (hl : l ≤ c) (hm : c ≤ maxLen) (hz : zs.length = c) (hw : ∀ n ∈ zs, (Lit.int .u8 n).wf = true) (hn : a = none → c = 0)
    (hc : ∀ a', a = some a' → ∀ i, i < c → w.cell? (a'.add i) = some (.int .u8 (zs.getD i 0))) :
    (zs.take l).length = l ∧ On.Arg .u8 w a (zs.take l) ∧ (∀ i, 0 ≤ (zs.take l).getD i 0 ∧ (zs.take l).getD i 0 ≤ 255) ∧ (zs.take l).length ≤ 9223372036854775807 := by
  have hlen : (zs.take l).length = l := by simp; omega
  refine ⟨hlen, fun h0 => ?_, fun i => ?_, by unfold maxLen at hm; omega⟩
  · cases a with
    | none => have := hn rfl; omega
    | some x =>
      obtain ⟨b, off, rfl⟩ : ∃ b off, x = ⟨b, off, none⟩ := spot_none (hc x rfl 0 (by omega))
      refine ⟨b, off, rfl, fun i hi => ?_⟩
      have hi' : i < l := by omega
      have h := hc _ rfl i (by omega)
      rw [Addr.add_lit] at h
      rw [h]
      simp [List.getD, hi']
  · by_cases hi : i < (zs.take l).length
    · have hmem : (zs.take l).getD i 0 ∈ zs := by
        rw [show (zs.take l).getD i 0 = (zs.take l)[i] by simp only [List.getD, List.getElem?_eq_getElem hi, Option.getD_some]]
        exact List.mem_of_mem_take (List.getElem_mem hi)
      have := bounds_u8 (hw _ hmem)
      omega
    · simp only [List.getD, List.getElem?_eq_none (Nat.le_of_not_lt hi), Option.getD_none]
      omega

set_option maxRecDepth 100000 in
theorem lifted (os : Os) (started : os.Started) (H : Type) (enc : TypeId × Value → H) :
    ReturnsInHanded {} Yba.checked os 3 .any (Rows.lawS2385AScriptSpec.pre6 enc Yba.prog Yba.f3 Rows.lawS2385AScriptRow.domain false) (Rows.lawS2385AScriptSpec.post enc Yba.prog Yba.f3 false true false false) := by
  refine returnsInHanded_of_change (C := Yba.checked) own started (by kernel_rfl) Yba.func3
    (ChangeSpec.witness6 (enc := enc) (C := Yba.checked) false ⟨#[], #[.int .u8 0, .slice none 0 0], []⟩ 8 (by kernel_rfl) (by kernel_rfl) (by kernel_rfl) (by kernel_rfl)) ?_
  intro W base args ds gs before hval0 hW hcnd _
  have hval : ∀ (j : Nat) t v, Yba.f3.params[j]? = some t → args[j]? = some v → Value.okWide Yba.prog W .any base t v := hval0
  have hW' := hW
  obtain ⟨p, q, hA0, hV, rfl, hfz, hnd⟩ := hW
  have hA : DataW.TrodAll enc Yba.prog W 0 (fun _ => true) true Yba.f3.params.toList args.toList ds p := hA0
  rw [Yba.params3] at hA hval
  obtain ⟨v0, vs0, d0, ds0, p0, q0, hargs, rfl, rfl, h0, r0⟩ := trodAll_cons hA
  obtain ⟨v1, vs1, d1, ds1, p1, q1, rfl, rfl, rfl, h1, r1⟩ := trodAll_cons r0
  obtain ⟨rfl, rfl, rfl⟩ := trodAll_nil r1
  obtain rfl : args = #[v0, v1] := by cases args; simp_all
  obtain ⟨rfl, rfl⟩ := trodVars_none hV
  obtain ⟨a0, rfl, rfl, rfl, w0⟩ := open_int Yba.underlying5 (hval 0 5 v0 rfl rfl) h0
  obtain ⟨a1, len1, cap1, rfl⟩ := okWide_slice Yba.underlying22 (hval 1 22 v1 rfl rfl)
  have k1 := h1
  have lt1 : ∀ x ∈ p1, x.block < W.heap.size := by obtain ⟨m, hm⟩ := k1; exact DataW.trod_lt m _ _ _ hm
  have w1 : IsRows W a1 len1 := by
    obtain ⟨fuel, hf⟩ := h1
    rcases Deep.open_int_rows Yba.underlying22 Yba.underlying23 Yba.underlying5 (by kernel_rfl) (by kernel_rfl) hf with ⟨hcs, _⟩ | ⟨a, len, cap, A, L, C, Z, hcs, _, hl, hm, _, hr⟩
    · simp [Value.cells] at hcs
      obtain ⟨rfl, rfl, rfl⟩ := hcs
      exact ⟨fun _ => none, fun _ => 0, fun _ => [], fun r hr => absurd hr (by omega), fun r i => by simp, fun r => by simp⟩
    · simp [Value.cells] at hcs
      obtain ⟨rfl, rfl, rfl⟩ := hcs
      have each : ∀ r, r < len1 → ((Z r).take (L r)).length = L r ∧ On.Arg .u8 W (A r) ((Z r).take (L r)) ∧ (∀ i, 0 ≤ ((Z r).take (L r)).getD i 0 ∧ ((Z r).take (L r)).getD i 0 ≤ 255) ∧ ((Z r).take (L r)).length ≤ 9223372036854775807 := fun r hrl => by
        obtain ⟨_, e1, e2, e3, e4, e5, e6⟩ := hr r (by omega)
        exact one_row e1 e2 e3 e4 e5 (fun a' ha' => (e6 a' ha').2)
      refine ⟨A, C, fun r => if r < len1 then (Z r).take (L r) else [], fun r hrl => ?_, fun r i => ?_, fun r => ?_⟩
      · obtain ⟨e0, _⟩ := hr r (by omega)
        obtain ⟨f1, f2, _, _⟩ := each r hrl
        obtain ⟨b, off, rfl⟩ : ∃ b off, a = ⟨b, off, none⟩ := spot_none (hr 0 (by omega)).1
        rw [Addr.add_lit] at e0
        refine ⟨b, off, rfl, ?_, ?_⟩
        · rw [e0]; simp only [if_pos hrl, f1]
        · simp only [if_pos hrl]; exact f2
      · by_cases hrl : r < len1
        · simp only [if_pos hrl]; exact (each r hrl).2.2.1 i
        · simp [if_neg hrl]
      · by_cases hrl : r < len1
        · simp only [if_pos hrl]; exact (each r hrl).2.2.2
        · simp [if_neg hrl]
  clear hA0 hval0
  refine (walk a0 a1 len1 cap1 W w0 w1).mono fun e W' ⟨he, bel⟩ => ?_
  subst he
  exact ⟨_, rfl, _, _, _, [], _, [], hW', trodAll_mk1 (shut_bool Yba.underlying4 _), (trodAll_cons_mk (shut_int Yba.underlying5 w0) (trodAll_cons_mk (Below.trod laidOut (by kernel_rfl) (of_decide_eq_true (by kernel_rfl)) k1 bel lt1) trodAll_mk0)), rfl, bel.frame _, fun h => by cases h⟩

theorem over : Rows.lawS2385AScriptRow.holds Yba.pinned (OpenSpec.ofChange Rows.lawS2385AScriptSpec) :=
  OpenClaim.holds_of_wide 3 Yba.f3 rfl rfl rfl rfl rfl rfl rfl ⟨rfl, rfl, rfl, rfl, rfl⟩ rfl rfl rfl rfl rfl (by kernel_rfl) Yba.func3 (by kernel_rfl)
    (of_decide_eq_true (by kernel_rfl)) (by unfold Func.isWrapper; first | (rw [if_pos (by decide +kernel)]; kernel_rfl) | (rw [if_neg (by decide +kernel)]; exact ⟨rfl, rfl⟩))
    (fun os started H enc _ => lifted os started H enc)

/-- ████ THE STATEMENT ████ -/
theorem proved : Rows.LawS2385AScriptSaid := over
#print axioms proved
end Go.Proofs.Ybulkawjg.lawS2385AScript
