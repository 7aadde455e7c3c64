import Derived.Test.YbulkawlyFmtCom2
namespace Go.Proofs.YbulkawlyFmt.Ac
open Go.ChangeShapes Go.WideShapes Go.ChangeAt Go.RowKit Go.Proofs.YbulkawlyFmt.Lw Go.Proofs.YbulkawlyFmt Go.Proofs.YbulkawlyFmt.Pl

/-- The tokens of the first k values, with the operators between them. -/
def vtok (a : Nat → Nat) (q : Nat → Bool) (i : Nat) : Tok := ⟨false, txt (a i), q i⟩
def otok (o : Nat → Nat) (i : Nat) : Tok := ⟨true, oxt (o i), false⟩
def tokL (a : Nat → Nat) (q : Nat → Bool) (o : Nat → Nat) : Nat → List Tok
  | 0 => []
  | 1 => [vtok a q 0]
  | k + 2 => tokL a q o (k + 1) ++ [otok o k] ++ [vtok a q (k + 1)]
theorem tokL_len (a : Nat → Nat) (q : Nat → Bool) (o : Nat → Nat) : ∀ k, (tokL a q o (k + 1)).length = 2 * k + 1
  | 0 => rfl
  | k + 1 => by simp only [tokL, List.length_append, tokL_len a q o k, List.length_cons, List.length_nil]; omega
theorem tokL_val (a : Nat → Nat) (q : Nat → Bool) (o : Nat → Nat) : ∀ k i, i ≤ k → ∀ rest, (tokL a q o (k + 1) ++ rest).getD (2 * i) noTok = vtok a q i
  | 0, i, hi, rest => by
    obtain rfl : i = 0 := by omega
    rfl
  | k + 1, i, hi, rest => by
    simp only [tokL, List.append_assoc]
    by_cases h : i ≤ k
    · exact tokL_val a q o k i h _
    · obtain rfl : i = k + 1 := by omega
      have hl := tokL_len a q o k
      simp only [List.getD]
      rw [List.getElem?_append_right (by omega), hl, show 2 * (k + 1) - (2 * k + 1) = 1 by omega]
      rfl
theorem tokL_op (a : Nat → Nat) (q : Nat → Bool) (o : Nat → Nat) : ∀ k i, i < k → ∀ rest, (tokL a q o (k + 1) ++ rest).getD (2 * i + 1) noTok = otok o i
  | 0, i, hi, rest => by omega
  | k + 1, i, hi, rest => by
    simp only [tokL, List.append_assoc]
    by_cases h : i < k
    · exact tokL_op a q o k i h _
    · obtain rfl : i = k := by omega
      have hl := tokL_len a q o i
      simp only [List.getD]
      rw [List.getElem?_append_right (by omega), hl, show 2 * i + 1 - (2 * i + 1) = 0 by omega]
      rfl
theorem tokL_rest (a : Nat → Nat) (q : Nat → Bool) (o : Nat → Nat) (k i : Nat) (rest : List Tok) : (tokL a q o (k + 1) ++ rest).getD (2 * k + 1 + i) noTok = rest.getD i noTok := by
  have hl := tokL_len a q o k
  simp only [List.getD]
  rw [List.getElem?_append_right (by omega), hl, show 2 * k + 1 + i - (2 * k + 1) = i by omega]

theorem row_len (ts : List Tok) : (row ts).length = ts.length * 3 := by
  induction ts with
  | nil => rfl
  | cons t ts ih => simp only [row, List.flatMap_cons, List.length_append] at ih ⊢; rw [ih]; simp [Tok.cells]; omega
theorem row_get (ts : List Tok) : ∀ i, i < ts.length → (row ts)[i * 3]? = some (.bool (ts.getD i noTok).op) ∧ (row ts)[i * 3 + 1]? = some (.string (ts.getD i noTok).text) ∧ (row ts)[i * 3 + 2]? = some (.bool (ts.getD i noTok).q) := by
  induction ts with
  | nil => intro i hi; simp at hi
  | cons t ts ih =>
    intro i hi
    cases i with
    | zero => simp [row, Tok.cells]
    | succ i =>
      have := ih i (by simpa using hi)
      simp only [row, List.flatMap_cons, Tok.cells, List.getD_cons_succ] at this ⊢
      refine ⟨?_, ?_, ?_⟩
      · rw [List.getElem?_append_right (by simp; omega)]; simpa [show (i + 1) * 3 - 3 = i * 3 by omega] using this.1
      · rw [List.getElem?_append_right (by simp; omega)]; simpa [show (i + 1) * 3 + 1 - 3 = i * 3 + 1 by omega] using this.2.1
      · rw [List.getElem?_append_right (by simp; omega)]; simpa [show (i + 1) * 3 + 2 - 3 = i * 3 + 2 by omega] using this.2.2

/-- The records of the first k values. -/
def recC (x : Nat) (y : Bool) : List Value := [.string (txt x), .bool y, .bool (isI x && !y), .int .i64 (if y then 0 else num x)]
def recs (a : Nat → Nat) (q : Nat → Bool) : Nat → List Value
  | 0 => []
  | k + 1 => recs a q k ++ recC (a k) (q k)
theorem recs_len (a : Nat → Nat) (q : Nat → Bool) : ∀ k, (recs a q k).length = k * 4
  | 0 => rfl
  | k + 1 => by simp only [recs, List.length_append, recs_len a q k, recC, List.length_cons, List.length_nil]; omega
theorem recs_get (a : Nat → Nat) (q : Nat → Bool) (j : Nat) (hj : j < 4) : ∀ k i, i < k → (recs a q k)[i * 4 + j]? = (recC (a i) (q i))[j]?
  | 0, i, hi => by omega
  | k + 1, i, hi => by
    have hl := recs_len a q k
    simp only [recs]
    by_cases h : i < k
    · rw [List.getElem?_append_left (by omega)]
      exact recs_get a q j hj k i h
    · obtain rfl : i = k := by omega
      rw [List.getElem?_append_right (by omega), hl, show i * 4 + j - i * 4 = j by omega]

/-- WHAT HOLDS WHILE THE LAW LAYS ITS TOKENS AND VALUES. -/
structure MR (w wr : World) (tv vv : Value) (ts : List Tok) (a : Nat → Nat) (q : Nat → Bool) (k : Nat) : Prop where
  tk : wr.ownsRow w.heap.size 30 3 tv ts.length (row ts)
  vl : wr.ownsRow w.heap.size 32 4 vv k (recs a q k)
  bel : Below w.heap.size w wr

theorem own_ne {w : World} {base n n' s s' : Nat} {e e' : TypeId} {u v : Value} {xs ys : List Value} (h : w.ownsRow base e s u n xs) (h' : w.ownsRow base e' s' v n' ys) (he : e ≠ e') : ∀ g, u.ownBlock = some g → v.ownBlock ≠ some g := by
  intro g hu hv
  rcases h.2 with ⟨rfl, _⟩ | ⟨g1, c1, cur1, rfl, _, hh1, _⟩
  · simp [Value.ownBlock] at hu
  · rcases h'.2 with ⟨rfl, _⟩ | ⟨g2, c2, cur2, rfl, _, hh2, _⟩
    · simp [Value.ownBlock] at hv
    · simp [Value.ownBlock] at hu hv
      subst hu; subst hv
      rw [hh1] at hh2
      simp at hh2
      exact he hh2.2

theorem mr_kp {w wr w1 : World} {tv vv : Value} {ts : List Tok} {a : Nat → Nat} {q : Nat → Bool} {k : Nat} (h : MR w wr tv vv ts a q k) (hk : Kp (fun _ => True) wr w1) : MR w w1 tv vv ts a q k :=
  ⟨own_kp h.tk hk (fun _ _ => trivial), own_kp h.vl hk (fun _ _ => trivial), h.bel.trans (hk.below h.bel.size (fun _ _ => trivial))⟩

theorem mr_grow {w wr w1 : World} {B : Nat} (o : Obj) {row : Option Nat} (hg : (wr.alloc o).grownBy w1 row) (hB : B ≤ wr.heap.size) (hr : ∀ g, row = some g → B ≤ g) (hb : Below B w wr) : Below B w w1 :=
  hb.trans ((((Kp.refl (fun k => some k ≠ row) wr).alloc o).trans (Kp.ofGrown hg)).below hB (fun k hk e => by have := hr k e.symm; omega))

theorem mr_tok {w wr w1 : World} {tv vv v' : Value} {ts : List Tok} {a : Nat → Nat} {q : Nat → Bool} {k : Nat} (h : MR w wr tv vv ts a q k) (t : Tok) (o : Obj) (hg : (wr.alloc o).grownBy w1 tv.ownBlock)
    (hown : w1.ownsRow w.heap.size 30 3 v' (ts.length + 1) (row ts ++ t.cells)) : MR w w1 v' vv (ts ++ [t]) a q k := by
  refine ⟨?_, ?_, mr_grow o hg h.bel.size (fun g e => (own_lt h.tk e).1) h.bel⟩
  · have e : row (ts ++ [t]) = row ts ++ t.cells := by simp [row]
    rw [e, List.length_append]; exact hown
  · have h2 : (wr.alloc o).ownsRow w.heap.size 32 4 vv k (recs a q k) := h.vl.alloc o
    have h1 : (wr.alloc o).ownsRow w.heap.size 30 3 tv ts.length (row ts) := h.tk.alloc o
    exact own_kp h2 (Kp.ofGrown hg) (fun g hgv e => own_ne h2 h1 (by decide) g hgv e.symm)

theorem mr_val {w wr w1 : World} {tv vv v' : Value} {ts : List Tok} {a : Nat → Nat} {q : Nat → Bool} {k : Nat} (h : MR w wr tv vv ts a q k) (o : Obj) (hg : (wr.alloc o).grownBy w1 vv.ownBlock)
    (hown : w1.ownsRow w.heap.size 32 4 v' (k + 1) (recs a q k ++ recC (a k) (q k))) : MR w w1 tv v' ts a q (k + 1) := by
  refine ⟨?_, hown, mr_grow o hg h.bel.size (fun g e => (own_lt h.vl e).1) h.bel⟩
  have h2 : (wr.alloc o).ownsRow w.heap.size 32 4 vv k (recs a q k) := h.vl.alloc o
  have h1 : (wr.alloc o).ownsRow w.heap.size 30 3 tv ts.length (row ts) := h.tk.alloc o
  exact own_kp h1 (Kp.ofGrown hg) (fun g hgv e => own_ne h1 h2 (by decide) g hgv e.symm)

/-- The shape of an owned row, and its cells. -/
theorem own_cells {w : World} {base e s n : Nat} {v : Value} {xs : List Value} (h : w.ownsRow base e s v n xs) :
    ∃ ua cap, v = .slice ua n cap ∧ ∀ j u, xs[j]? = some u → ∃ g, ua = some ⟨g, 0, none⟩ ∧ base ≤ g ∧ g < w.heap.size ∧ w.cell? ⟨g, j, none⟩ = some u := by
  have h' := h
  rcases h.2 with ⟨hv, h0⟩ | ⟨g, cap, cur, hv, hg, hh, _⟩
  · refine ⟨none, 0, by rw [hv, h0], fun j u hj => ?_⟩
    have := h.1
    rw [h0] at this
    have e : xs = [] := List.eq_nil_of_length_eq_zero (by simpa using this)
    rw [e] at hj
    simp at hj
  · refine ⟨_, cap, hv, fun j u hj => ⟨g, rfl, hg, lt_of_row hh, ?_⟩⟩
    have := h'.cells (g := g) (by rw [hv]; rfl) j u hj
    rw [Addr.add_lit] at this
    simpa using this
end Go.Proofs.YbulkawlyFmt.Ac
