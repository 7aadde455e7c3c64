import Derived.Test.YbulkawlyFmtRel
namespace Go.Proofs.YbulkawlyFmt.Ac
open Go.ChangeShapes Go.WideShapes Go.ChangeAt Go.RowKit Go.Proofs.YbulkawlyFmt.Lw Go.Proofs.YbulkawlyFmt Go.Proofs.YbulkawlyFmt.Pl

/-- What may stand behind the values: a dangling comparison, a tail. -/
def dg (d : Bool) : List Tok := if d then [⟨true, oxt 2, false⟩] else []
def tl (t : Bool) : List Tok := if t then [⟨true, ⟨#[38]⟩, false⟩] else []
def allT (a : Nat → Nat) (q : Nat → Bool) (o : Nat → Nat) (m : Nat) (d t : Bool) : List Tok := tokL a q o m ++ dg d ++ tl t

theorem oxt_stp (x : Nat) (hx : x < 6) : ∀ s ∈ Arith, ((oxt x).toList == s.toList) = false := by
  have h : ∀ b : Fin 6, ∀ s ∈ Arith, ((oxt b).toList == s.toList) = false := by decide +kernel
  exact h ⟨x, hx⟩
theorem amp_stp : ∀ s ∈ Arith, ((⟨#[38]⟩ : ByteArray).toList == s.toList) = false := by decide +kernel
theorem amp_noC : ∀ i, i < 6 → ((⟨#[38]⟩ : ByteArray).toList == (six.getD i ⟨#[]⟩).toList) = false := by
  have h : ∀ b : Fin 6, ((⟨#[38]⟩ : ByteArray).toList == (six.getD b ⟨#[]⟩).toList) = false := by decide +kernel
  exact fun i hi => h ⟨i, hi⟩

theorem all_len (a : Nat → Nat) (q : Nat → Bool) (o : Nat → Nat) (k : Nat) (d t : Bool) : (allT a q o (k + 1) d t).length = 2 * k + 1 + (dg d ++ tl t).length := by
  unfold allT
  rw [List.append_assoc, List.length_append, tokL_len]
theorem all_val (a : Nat → Nat) (q : Nat → Bool) (o : Nat → Nat) (k : Nat) (d t : Bool) (i : Nat) (hi : i < k + 1) : Val (allT a q o (k + 1) d t) (2 * i) (txt (a i)) (q i) := by
  refine ⟨by rw [all_len]; omega, ?_⟩
  unfold allT
  rw [List.append_assoc]
  exact tokL_val a q o k i (by omega) _
theorem all_op (a : Nat → Nat) (q : Nat → Bool) (o : Nat → Nat) (k : Nat) (d t : Bool) (i : Nat) (hi : i + 1 < k + 1) : 2 * i + 1 < (allT a q o (k + 1) d t).length ∧ (allT a q o (k + 1) d t).getD (2 * i + 1) noTok = ⟨true, oxt (o i), false⟩ := by
  refine ⟨by rw [all_len]; omega, ?_⟩
  unfold allT
  rw [List.append_assoc]
  exact tokL_op a q o k i (by omega) _
theorem all_rest (a : Nat → Nat) (q : Nat → Bool) (o : Nat → Nat) (k : Nat) (d t : Bool) (i : Nat) : (allT a q o (k + 1) d t).getD (2 * k + 1 + i) noTok = (dg d ++ tl t).getD i noTok := by
  unfold allT
  rw [List.append_assoc]
  exact tokL_rest a q o k i _
theorem all_stp (a : Nat → Nat) (q : Nat → Bool) (o : Nat → Nat) (ho : ∀ i, o i < 6) (k : Nat) (d t : Bool) (i : Nat) (hi : i < k + 1) : Stp (allT a q o (k + 1) d t) (2 * i + 1) := by
  by_cases h : i + 1 < k + 1
  · obtain ⟨h1, h2⟩ := all_op a q o k d t i h
    exact .inr ⟨h1, by rw [h2], by rw [h2]; exact oxt_stp _ (ho i)⟩
  · obtain rfl : i = k := by omega
    have hr := all_rest a q o i d t 0
    rw [Nat.add_zero] at hr
    have hl := all_len a q o i d t
    cases d
    · cases t
      · exact .inl (by rw [hl]; rfl)
      · exact .inr ⟨by rw [hl]; exact Nat.lt_succ_self _, by rw [hr]; rfl, by rw [hr]; exact amp_stp⟩
    · refine .inr ⟨?_, by rw [hr]; cases t <;> rfl, by rw [hr]; cases t <;> exact oxt_stp 2 (by decide)⟩
      rw [hl]
      have : 0 < (dg true ++ tl t).length := by cases t <;> decide
      omega
theorem all_end (a : Nat → Nat) (q : Nat → Bool) (o : Nat → Nat) (k : Nat) (t : Bool) : NoC (allT a q o (k + 1) false t) (2 * (k + 1) - 1) := by
  have hr := all_rest a q o k false t 0
  have hl := all_len a q o k false t
  have e : 2 * (k + 1) - 1 = 2 * k + 1 + 0 := by omega
  rw [e]
  cases t
  · exact .inl (by rw [hl]; rfl)
  · exact .inr ⟨by rw [hl]; exact Nat.lt_succ_self _, by rw [hr]; exact amp_noC⟩
theorem all_dng (a : Nat → Nat) (q : Nat → Bool) (o : Nat → Nat) (k : Nat) (t : Bool) : 2 * (k + 1) - 1 < (allT a q o (k + 1) true t).length ∧ (allT a q o (k + 1) true t).getD (2 * (k + 1) - 1) noTok = ⟨true, oxt 2, false⟩ ∧ Stp (allT a q o (k + 1) true t) (2 * (k + 1)) := by
  have hr := all_rest a q o k true t 0
  have hr1 := all_rest a q o k true t 1
  have hl := all_len a q o k true t
  have e : 2 * (k + 1) - 1 = 2 * k + 1 + 0 := by omega
  have e2 : 2 * (k + 1) = 2 * k + 1 + 1 := by omega
  have hp : 0 < (dg true ++ tl t).length := by cases t <;> decide
  refine ⟨by rw [hl]; omega, by rw [e, hr]; cases t <;> rfl, ?_⟩
  rw [e2]
  cases t
  · exact .inl (by rw [hl]; rfl)
  · exact .inr ⟨by rw [hl]; exact Nat.lt_succ_self _, by rw [hr1]; rfl, by rw [hr1]; exact amp_stp⟩
theorem dt_len (d t : Bool) : (dg d ++ tl t).length ≤ 2 := by cases d <;> cases t <;> decide

/-- The parser over the tokens laid. -/
theorem ps_of {w wx : World} {tv vv : Value} {ts : List Tok} {a : Nat → Nat} {q : Nat → Bool} {k : Nat} (M : MR w wx tv vv ts a q k) (h0 : 0 < ts.length) (hl : ts.length ≤ 100000) :
    ∃ T cap, tv = .slice (some ⟨T, 0, none⟩) ts.length cap ∧ T < wx.heap.size ∧ w.heap.size ≤ T ∧ Ps (wx.alloc (.cells #[.slice (some ⟨T, 0, none⟩) ts.length cap, .int .i64 0] 36)) wx.heap.size T (some ⟨T, 0, none⟩) cap ts 0 := by
  obtain ⟨ua, cap, e, hc⟩ := own_cells M.tk
  obtain ⟨T, rfl, hT, hTl, _⟩ := hc (0 * 3) _ (row_get ts 0 h0).1
  have cc : ∀ j u, (row ts)[j]? = some u → wx.cell? ⟨T, j, none⟩ = some u := fun j u hj => by
    obtain ⟨g, e2, _, _, h3⟩ := hc j u hj
    simp at e2
    rw [e2]; exact h3
  have ka : Kp (fun _ => True) wx (wx.alloc (.cells #[.slice (some ⟨T, 0, none⟩) ts.length cap, .int .i64 0] 36)) := (Kp.refl _ _).alloc _
  refine ⟨T, cap, e, hTl, hT, ⟨heap_alloc_new wx _, fun _ => rfl, fun i hi => ?_, by omega, hl, Nat.zero_le _⟩⟩
  obtain ⟨c0, c1, c2⟩ := row_get ts i hi
  exact ⟨cell_kp ka (cc _ _ c0) trivial, cell_kp ka (cc _ _ c1) trivial, cell_kp ka (cc _ _ c2) trivial⟩
/-- The values laid. -/
theorem vals_of {w wx : World} {tv vv : Value} {ts : List Tok} {a : Nat → Nat} {q : Nat → Bool} {k : Nat} (M : MR w wx tv vv ts a q (k + 1)) :
    ∃ V cap, vv = .slice (some ⟨V, 0, none⟩) (k + 1) cap ∧ V < wx.heap.size ∧ w.heap.size ≤ V ∧ ∀ i j u, i < k + 1 → j < 4 → (recC (a i) (q i))[j]? = some u → wx.cell? ⟨V, i * 4 + j, none⟩ = some u := by
  obtain ⟨ua, cap, e, hc⟩ := own_cells M.vl
  obtain ⟨V, rfl, hT, hTl, _⟩ := hc (0 * 4 + 0) _ (recs_get a q 0 (by decide) (k + 1) 0 (by omega))
  refine ⟨V, cap, e, hTl, hT, fun i j u hi hj hu => ?_⟩
  obtain ⟨g, e2, _, _, h3⟩ := hc (i * 4 + j) u ((recs_get a q j hj (k + 1) i hi).trans hu)
  simp at e2
  rw [e2]; exact h3
end Go.Proofs.YbulkawlyFmt.Ac
