import Derived.Test.YbulkawhcDoorPol
import Derived.Test.YbulkawhcDoorDecl2
namespace Go.Proofs.YbulkawhcDoor.Ch
open Go.ChangeShapes Go.WideShapes Go.ChangeAt Go.RowKit Go.Maps Go.Proofs.YbulkawhcDoor.Lw Go.Proofs.YbulkawhcDoor Go.Proofs.YbulkawhcDoor.Pl Go.Proofs.YbulkawhcDoor.Se Go.Proofs.YbulkawhcDoor.De Go.Proofs.YbulkawhcDoor.Me Go.Proofs.YbulkawhcDoor.Po

/-! ### Plain -/
theorem en_lo (ms : List Mem) {i : Nat} (h : i < 3) : en ms i = kn i := by unfold en; rw [if_pos h]
theorem en_hi (ms : List Mem) {i : Nat} (h : ¬ i < 3) : en ms i = nm (ms.getD (i - 3) (0, 0)).1 := by unfold en; rw [if_neg h]
theorem en_side {ms ms' : List Mem} (g : Pl.Good ms) (g' : Pl.Good ms') {i j : Nat} (hi : i < 3 + ms.length) (hj : j < 3 + ms'.length) (h : en ms' j = en ms i) : (i < 3 ↔ j < 3) ∧ (i < 3 → i = j) ∧ (¬ i < 3 → (ms'.getD (j - 3) (0, 0)).1 = (ms.getD (i - 3) (0, 0)).1) := by
  by_cases h1 : i < 3 <;> by_cases h2 : j < 3
  · rw [en_lo ms h1, en_lo ms' h2] at h
    exact ⟨by simp [h1, h2], fun _ => (kn_inj h2 h1 h).symm, fun h => absurd h1 h⟩
  · rw [en_lo ms h1, en_hi ms' h2] at h
    exact (nk_inj (g'.lt _ (getD_mem (by omega))).1 h1 h).elim
  · rw [en_hi ms h1, en_lo ms' h2] at h
    exact (nk_inj (g.lt _ (getD_mem (by omega))).1 h2 h.symm).elim
  · rw [en_hi ms h1, en_hi ms' h2] at h
    exact ⟨by simp [h1, h2], fun h => absurd h h1, fun _ => nm_inj (g'.lt _ (getD_mem (by omega))).1 (g.lt _ (getD_mem (by omega))).1 h⟩
theorem hasM_iff {other : List Mem} (g : Pl.Good other) {j : Nat} (hj : j < other.length) {m : Mem} (h : (other.getD j (0, 0)).1 = m.1) : hasM other m = ((other.getD j (0, 0)).2 == m.2) := by
  unfold hasM
  rw [Bool.eq_iff_iff, List.any_eq_true]
  constructor
  · rintro ⟨o, ho, h2⟩
    simp only [Bool.and_eq_true, beq_iff_eq] at h2
    obtain ⟨k, hk, rfl⟩ := List.getElem_of_mem ho
    have : k = j := good_inj g hk hj (by
      rw [show other.getD k (0, 0) = other[k] by simp [List.getD, hk], h2.1, h])
    subst this
    rw [show other.getD k (0, 0) = other[k] by simp [List.getD, hk]]
    simp [h2.2]
  · intro h2
    exact ⟨_, getD_mem hj, by rw [h]; simpa using h2⟩
theorem hasM_no {other : List Mem} {m : Mem} (h : ∀ j, j < other.length → (other.getD j (0, 0)).1 ≠ m.1) : hasM other m = false := by
  unfold hasM
  rw [Bool.eq_false_iff]
  intro h2
  rw [List.any_eq_true] at h2
  obtain ⟨o, ho, h3⟩ := h2
  simp only [Bool.and_eq_true, beq_iff_eq] at h3
  obtain ⟨k, hk, rfl⟩ := List.getElem_of_mem ho
  exact h k hk (by rw [show other.getD k (0, 0) = other[k] by simp [List.getD, hk]]; exact h3.1)
/-- The name is there. -/
theorem chg_in {ms ms' : List Mem} (g : Pl.Good ms) (g' : Pl.Good ms') {i j : Nat} (hi : i < 3 + ms.length) (hj : j < 3 + ms'.length) (h : en ms' j = en ms i) :
    expB ms ms' i = !(declB ms ms' i j) ∧ (declB ms ms' i j = false → decide (i < 3) = false) := by
  obtain ⟨h1, h2, h3⟩ := en_side g g' hi hj h
  by_cases hi3 : i < 3
  · have hj3 := h1.1 hi3
    have e : declB ms ms' i j = true := by unfold declB cls; rw [if_pos hi3, if_pos hj3]; simp [hi3, hj3]; decide
    rw [e]
    refine ⟨?_, fun h => by simp at h⟩
    unfold expB
    simp; omega
  · have hj3 : ¬ j < 3 := fun h => hi3 (h1.2 h)
    have e : declB ms ms' i j = ((ms.getD (i - 3) (0, 0)).2 == (ms'.getD (j - 3) (0, 0)).2) := by
      unfold declB cls
      rw [if_neg hi3, if_neg hj3, bits_inj _ _ (g.lt _ (getD_mem (by omega))).2 (g'.lt _ (getD_mem (by omega))).2]
      simp [hi3, hj3]
    refine ⟨?_, fun _ => by simp [hi3]⟩
    unfold expB
    rw [e, hasM_iff g' (j := j - 3) (by omega) (h3 hi3), Bool.beq_comm]
    simp; omega
/-- The name is not there. -/
theorem chg_out {ms ms' : List Mem} {i : Nat} (h : ∀ j, j < 3 + ms'.length → en ms' j ≠ en ms i) : expB ms ms' i = true ∧ decide (i < 3) = false := by
  have hi3 : ¬ i < 3 := fun hi => h i (by omega) (by rw [en_lo ms hi, en_lo ms' hi])
  refine ⟨?_, by simp [hi3]⟩
  unfold expB
  rw [hasM_no (fun j hj e => h (3 + j) (by omega) (by rw [en_hi ms' (by omega), en_hi ms hi3, show 3 + j - 3 = j by omega, e]))]
  simp; omega
/-- A change on one side is one on the other. -/
theorem chg_back {ms ms' : List Mem} (g : Pl.Good ms) (g' : Pl.Good ms') {i j : Nat} (hi : i < 3 + ms.length) (hj : j < 3 + ms'.length) (h : en ms' j = en ms i) (he : expB ms ms' i = true) : expB ms' ms j = true := by
  obtain ⟨h1, h2, h3⟩ := en_side g g' hi hj h
  have hi3 : ¬ i < 3 := fun hi => by unfold expB at he; simp at he; omega
  have hj3 : ¬ j < 3 := fun h => hi3 (h1.2 h)
  have e3 := h3 hi3
  unfold expB at he ⊢
  rw [hasM_iff g' (j := j - 3) (by omega) e3] at he
  rw [hasM_iff g (j := i - 3) (by omega) e3.symm]
  simp at he ⊢
  exact ⟨by omega, fun e => he.2 e.symm⟩

/-! ### The sides -/
def rF (f : Nat → Bool) (k : Nat) : Nat → Value := fun i => .bool (decide (i < k) && f i)
theorem rF_start (f : Nat → Bool) (n : Nat) : rowF n (rF f 0) = List.replicate n (.bool false) := by
  rw [rowF_rep]; exact rowF_congr fun i _ => by simp [rF]
theorem rF_false (f : Nat → Bool) (n k : Nat) (h : f k = false) : rowF n (rF f k) = rowF n (rF f (k + 1)) := by
  refine rowF_congr fun i _ => ?_
  unfold rF
  by_cases e : i = k
  · subst e; simp [h]
  · have : decide (i < k) = decide (i < k + 1) := by
      by_cases h1 : i < k
      · simp [h1]; omega
      · simp [h1]; omega
    rw [this]
theorem rF_true (f : Nat → Bool) (n k : Nat) (h : f k = true) : (rowF n (rF f k)).set k (.bool true) = rowF n (rF f (k + 1)) := by
  rw [rowF_set]
  refine rowF_congr fun i _ => ?_
  unfold rF
  by_cases e : i = k
  · subst e; simp [h]
  · have : decide (i < k) = decide (i < k + 1) := by
      by_cases h1 : i < k
      · simp [h1]; omega
      · simp [h1]; omega
    simp only [if_neg e, this]
theorem rF_end (f : Nat → Bool) (n : Nat) : rowF n (rF f n) = rowF n (fun i => .bool (f i)) := rowF_congr fun i hi => by simp [rF, hi]
theorem row_same (f : Nat → Bool) (n k : Nat) (h : f k = true) : (rowF n (fun i => .bool (f i))).set k (.bool true) = rowF n (fun i => .bool (f i)) := by
  rw [rowF_set]
  refine rowF_congr fun i _ => ?_
  by_cases e : i = k
  · subst e; simp [h]
  · simp [e]
/-- A side's block: its policy, its row of changed names. -/
def SBk (w : World) (S P c : Nat) (v : Value) : Prop := ∃ cs : List Value, w.heap[S]? = some (.cells cs.toArray 48 (0, 0)) ∧ cs[0]? = some (.pointer (some ⟨P, 0, none⟩)) ∧ cs[4 + c]? = some v
theorem sbk_cells {w : World} {S P c : Nat} {v : Value} (h : SBk w S P c v) : w.cell? ⟨S, 0, none⟩ = some (.pointer (some ⟨P, 0, none⟩)) ∧ w.cell? ⟨S, 4 + c, none⟩ = some v ∧ w.frozen? ⟨S, 4 + c, none⟩ = false ∧ S < w.heap.size := by
  obtain ⟨cs, h1, h2, h3⟩ := h
  refine ⟨?_, ?_, frozen_of_row w S _ _ 48 h1, lt_of_row h1⟩
  · rw [cell_of_row w S 0 _ 48 (0, 0) h1]; simpa using h2
  · rw [cell_of_row w S (4 + c) _ 48 (0, 0) h1]; simpa using h3
theorem sbk_kp {p : Nat → Prop} {w w1 : World} {S P c : Nat} {v : Value} (h : SBk w S P c v) (hk : Kp p w w1) (hp : p S) : SBk w1 S P c v := by
  obtain ⟨cs, h1, h2, h3⟩ := h
  exact ⟨cs, hk.row h1 hp, h2, h3⟩
theorem sbk_set {w : World} {S P c : Nat} {v : Value} (h : SBk w S P c v) (v' : Value) : SBk (w.setCell ⟨S, 4 + c, none⟩ v') S P c v' := by
  obtain ⟨cs, h1, h2, h3⟩ := h
  refine ⟨_, set_row h1 (4 + c) v', ?_, ?_⟩
  · rw [List.getElem?_set_ne (by omega)]; exact h2
  · have := (List.getElem?_eq_some_iff.1 h3).1
    simp [this]
/-- A row of bools, whole. -/
def GR (w0 w : World) (G S0 S1 n : Nat) (f : Nat → Bool) : Prop := w0.heap.size ≤ G ∧ G ≠ S0 ∧ G ≠ S1 ∧ w.heap[G]? = some (.cells (rowF n (fun i => .bool (f i))).toArray 4 (0, 0))
theorem look_pq {w : World} {P off E ecap L M : Nat} {D : DataW Unit} {ms : List Mem} (h : PQ w P off E ecap L M D ms) (s : ByteArray) (hk : keyOf Ybad.prog 9 (.string s) = some (klE s)) :
    (∃ j, j < 3 + ms.length ∧ en ms j = s ∧ ∀ nz, (Instr.lookup 55 (.map (some M)) (.string s) true).run Ybad.prog (w.drewN nz) = .ok (.tuple #[.int .i64 (j : Int), .bool true]) (w.drewN nz)) ∨
    ((∀ j, j < 3 + ms.length → en ms j ≠ s) ∧ ∀ nz, (Instr.lookup 55 (.map (some M)) (.string s) true).run Ybad.prog (w.drewN nz) = .ok (.tuple #[.int .i64 0, .bool false]) (w.drewN nz)) := by
  have hr : ∀ nz, ∃ a, (Instr.lookup 55 (.map (some M)) (.string s) true).run Ybad.prog (w.drewN nz) = .ok (.tuple #[.int .i64 a, .bool (Maps.has D (klE s))]) (w.drewN nz) ∧ D.atKey (klE s) (.lit (.int .i64 0)) = .lit (.int .i64 a) := fun nz => by
    obtain ⟨v, ps, hrun, hv⟩ := (pq_kp h ((Kp.refl _ _).drewN nz)).mo.look_ok law9 Ybad.underlying55 (zero3 _) (plainElem_int Ybad.underlying3 (by decide)) hk
    obtain ⟨a, rfl, e2, _⟩ := plainElem_int_inv Ybad.underlying3 hv
    exact ⟨a, hrun, (Prod.mk.inj e2).1⟩
  rcases mp_look h.md s with ⟨j, hj, e, hat, hhas⟩ | ⟨hno, hhas⟩
  · refine .inl ⟨j, hj, e, fun nz => ?_⟩
    obtain ⟨a, hrun, e3⟩ := hr nz
    rw [hat] at e3
    have : (j : Int) = a := by simpa using e3
    rw [hrun, hhas, ← this]
  · refine .inr ⟨hno, fun nz => ?_⟩
    obtain ⟨a, hrun, e3⟩ := hr nz
    rw [atKey_of_not_has hhas] at e3
    have : (0 : Int) = a := by simpa using e3
    rw [hrun, hhas, ← this]
set_option maxRecDepth 100000 in
theorem idx94a (a b c d : Value) (w : World) : (Instr.index 94 (.agg #[a, b, c, d]) (.int .i64 0)).run Ybad.prog w = .ok (.agg #[a, b]) w := by kernel_rfl
set_option maxRecDepth 100000 in
theorem idx94b (a b c d : Value) (w : World) : (Instr.index 94 (.agg #[a, b, c, d]) (.int .i64 1)).run Ybad.prog w = .ok (.agg #[c, d]) w := by kernel_rfl
theorem wpList_index {P : Program} {ops : Array Oper} {rest : List Oper} {o : Oper} {a : Act} {w : World} {Q : Exit → Act → World → Prop} (hg : o.guard = none) (t : TypeId) (x i : Operand) (hop : o.op = Op.index t x i)
    (v : Value) (hr : (Instr.index t (a.eval x) (a.eval i)).run P w = .ok v w) (h : wpList P ops Q rest (a.put o.dst v) w) : wpList P ops Q (o :: rest) a w := by
  refine wpList_plain hg fun K hK => ?_
  unfold Oper.wp
  simp [execOp, hop, hr, Result.andThen]
  exact hK _ _ h
/-- 'make([]T, n)' at the operation. -/
theorem wp_make_row {P : Program} {w : World} {o : Oper} {a : Act} {K : Act → World → Prop} {Q : Exit → Act → World → Prop}
    (l c : Operand) (t : TypeId) (hop : o.op = Op.makeSlice t l c)
    (e : TypeId) (i : TypeInfo) (z : Value) (bytes : Nat) (h1 : P.underlying t = some (.slice e)) (h2 : P.info? e = some i) (h3 : i.zero = some z) (h4 : i.size = 1) (h5 : i.bytes = bytes) (h6 : z.cells = #[z])
    (kl kc : IntKind) (L C : Int) (n : Nat) (hl : a.eval l = .int kl L) (hc : a.eval c = .int kc C) (hL : L = (n : Int)) (hC : C = (n : Int)) (b2 : bytes * n ≤ 281474976710656) (b3 : n ≤ maxLen)
    (hK : ∀ w', w'.heap[w.heap.size]? = some (.cells (List.replicate n z).toArray e (0, 0)) → Kp (fun _ => True) w w' → w'.heap.size = w.heap.size + 1 → K (a.put o.dst (.slice (some ⟨w.heap.size, 0, none⟩) n n)) w') :
    o.wp P a w K Q := by
  subst hL; subst hC; subst h5
  have h63' : (n : Int) ≤ 9223372036854775807 := by
    have h := b3
    simp [maxLen] at h
    omega
  have hb' : (i.bytes : Int) * (n : Int) ≤ 281474976710656 := by
    have h : ((i.bytes * n : Nat) : Int) ≤ 281474976710656 := by omega
    rwa [Int.natCast_mul] at h
  have hr := run_make (P := P) w t e i z h1 h2 h3 kl kc n n (by omega) (Int.le_refl _) hb' h63'
  simp only [Int.toNat_natCast] at hr
  unfold Oper.wp
  simp [execOp, hop, hl, hc, hr, Result.andThen]
  refine hK _ ?_ ((Kp.refl _ _).alloc _) (by simp)
  rw [heap_alloc_new]
  have : madeCells z.cells (n * i.size) = (List.replicate n z).toArray := by
    apply Array.toList_inj.1
    rw [h6, h4, Nat.mul_one, toList_madeCells_one]
  rw [this]
end Go.Proofs.YbulkawhcDoor.Ch
