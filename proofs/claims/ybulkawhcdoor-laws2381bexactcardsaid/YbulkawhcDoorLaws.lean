/-
  Small laws for the walks of this seat: worlds that keep some blocks, rows known whole, make and copy as laws for the walk.
-/
import Derived.WalkKit
import Derived.Below
import Derived.Laws.CopyOwn
import Derived.Deep.QuietTactic
import Derived.BigQuiet
import Derived.Deep.AppendLies
namespace Go.Proofs.YbulkawhcDoor.Lw
open Go.RowKit

/-- Of the blocks of w for which p holds nothing has turned in w'. -/
structure Kp (p : Nat → Prop) (w w' : World) : Prop where
  os : w'.os = w.os
  tape : w'.tape = w.tape
  output : w'.output = w.output
  size : w.heap.size ≤ w'.heap.size
  block : ∀ k, k < w.heap.size → p k → w'.heap[k]? = w.heap[k]?

theorem Kp.refl (p : Nat → Prop) (w : World) : Kp p w w := ⟨rfl, rfl, rfl, Nat.le_refl _, fun _ _ _ => rfl⟩
theorem Kp.trans {p : Nat → Prop} {a b c : World} (h : Kp p a b) (k : Kp p b c) : Kp p a c :=
  ⟨k.os.trans h.os, k.tape.trans h.tape, k.output.trans h.output, Nat.le_trans h.size k.size, fun i hi hp => (k.block i (Nat.lt_of_lt_of_le hi h.size) hp).trans (h.block i hi hp)⟩
theorem Kp.mono {p q : Nat → Prop} {w w' : World} (h : Kp p w w') (hpq : ∀ k, k < w.heap.size → q k → p k) : Kp q w w' :=
  ⟨h.os, h.tape, h.output, h.size, fun k hk hq => h.block k hk (hpq k hk hq)⟩
theorem Kp.drew {p : Nat → Prop} {a w : World} (h : Kp p a w) : Kp p a w.drew := ⟨h.os, h.tape, h.output, h.size, h.block⟩
theorem Kp.drewN {p : Nat → Prop} {a w : World} (h : Kp p a w) (n : Nat) : Kp p a (w.drewN n) := ⟨h.os, h.tape, h.output, h.size, h.block⟩
theorem Kp.alloc {p : Nat → Prop} {a w : World} (h : Kp p a w) (o : Obj) : Kp p a (w.alloc o) :=
  h.trans ⟨rfl, rfl, rfl, by simp, fun k hk _ => Below.heap_alloc _ _ _ hk⟩
theorem Kp.setCell {p : Nat → Prop} {a w : World} (h : Kp p a w) {q : Addr} (hq : ¬ p q.block ∨ a.heap.size ≤ q.block) (u : Value) : Kp p a (w.setCell q u) :=
  ⟨h.os, h.tape, h.output, by simpa [World.setCell] using h.size, fun k hk hp => by
    rw [Below.heap_setCell _ _ _ _ (by rintro rfl; rcases hq with hq | hq; exact hq hp; omega)]; exact h.block k hk hp⟩
theorem Kp.setRow {p : Nat → Prop} {a w : World} (h : Kp p a w) {g : Nat} (hq : ¬ p g ∨ a.heap.size ≤ g) (cs : Array Value) : Kp p a (w.setRow g cs) :=
  ⟨h.os, h.tape, h.output, by simpa [World.setRow] using h.size, fun k hk hp => by
    rw [setRow_other w g k cs (by rintro rfl; rcases hq with hq | hq; exact hq hp; omega)]; exact h.block k hk hp⟩
theorem Kp.ofGrown {w w' : World} {row : Option Nat} (h : w.grownBy w' row) : Kp (fun k => some k ≠ row) w w' := ⟨h.os, h.tape, h.output, h.size, h.block⟩
theorem Kp.row {p : Nat → Prop} {w w' : World} (h : Kp p w w') {g : Nat} {o : Obj} (hg : w.heap[g]? = some o) (hp : p g) : w'.heap[g]? = some o := by
  have hlt : g < w.heap.size := by
    rcases Array.getElem?_eq_some_iff.1 hg with ⟨h', _⟩; exact h'
  rw [h.block g hlt hp]; exact hg
theorem Kp.below {p : Nat → Prop} {w w' : World} (h : Kp p w w') {B : Nat} (hB : B ≤ w.heap.size) (hp : ∀ k, k < B → p k) : Below B w w' :=
  ⟨h.os, h.tape, h.output, h.size, fun k hk => h.block k (by omega) (hp k hk)⟩
theorem Kp.ofBelow {B : Nat} {w w' : World} (h : Below B w w') : Kp (fun k => k < B) w w' := ⟨h.os, h.tape, h.output, h.size, fun k _ hp => h.block k hp⟩

theorem lt_of_row {w : World} {g : Nat} {o : Obj} (hg : w.heap[g]? = some o) : g < w.heap.size := by
  rcases Array.getElem?_eq_some_iff.1 hg with ⟨h', _⟩; exact h'

/-- A cell of a row of numbers that is known whole. -/
theorem cell_ints {w : World} {g : Nat} {k : IntKind} {zs : List Int} {t : TypeId} {fr : Nat × Nat} (hg : w.heap[g]? = some (.cells (zs.map (Value.int k)).toArray t fr)) {j : Nat} (hj : j < zs.length) :
    w.cell? ⟨g, j, none⟩ = some (.int k (zs.getD j 0)) := by
  rw [cell_of_row w g j _ t fr hg]
  simp [List.getD, hj]

/-- A store into a row of numbers that is known whole. -/
theorem set_ints {w : World} {g : Nat} {k : IntKind} {zs : List Int} {t : TypeId} (hg : w.heap[g]? = some (.cells (zs.map (Value.int k)).toArray t (0, 0))) (j : Nat) (x : Int) :
    (w.setCell ⟨g, j, none⟩ (.int k x)).heap[g]? = some (.cells ((zs.set j x).map (Value.int k)).toArray t (0, 0)) := by
  rw [heap_setCell_same w g j _ t _ hg]
  simp [List.map_set]

theorem set_row {w : World} {g : Nat} {cs : List Value} {t : TypeId} (hg : w.heap[g]? = some (.cells cs.toArray t (0, 0))) (j : Nat) (x : Value) :
    (w.setCell ⟨g, j, none⟩ x).heap[g]? = some (.cells (cs.set j x).toArray t (0, 0)) := by
  rw [heap_setCell_same w g j _ t _ hg]
  simp

/-- The block of an owned row lies in the heap. -/
theorem own_lt {w : World} {base : Nat} {e : TypeId} {size : Nat} {v : Value} {n : Nat} {xs : List Value} (h : w.ownsRow base e size v n xs) {g : Nat} (hg : v.ownBlock = some g) : base ≤ g ∧ g < w.heap.size := h.lt g hg

/-- An owned row stays owned where its block is kept. -/
theorem own_kp {p : Nat → Prop} {w w' : World} {base : Nat} {e : TypeId} {size : Nat} {v : Value} {n : Nat} {xs : List Value} (h : w.ownsRow base e size v n xs) (hk : Kp p w w') (hp : ∀ g, v.ownBlock = some g → p g) : w'.ownsRow base e size v n xs := by
  obtain ⟨h1, h2⟩ := h
  refine ⟨h1, ?_⟩
  rcases h2 with h2 | ⟨g, cap, cur, hv, hg, hh, r⟩
  · exact Or.inl h2
  · exact Or.inr ⟨g, cap, cur, hv, hg, hk.row hh (hp g (by rw [hv]; rfl)), r⟩

/-- An owned row of numbers: the value's shape, and its cells. -/
theorem own_shape {w : World} {base : Nat} {e : TypeId} {k : IntKind} {v : Value} {zs : List Int} (h : w.ownsRow base e 1 v zs.length (zs.map (Value.int k))) :
    (v = .slice none 0 0 ∧ zs = []) ∨ ∃ g cap, v = .slice (some ⟨g, 0, none⟩) zs.length cap ∧ zs.length ≤ cap ∧ base ≤ g ∧ g < w.heap.size ∧ (∀ j, j < zs.length → w.cell? ⟨g, j, none⟩ = some (.int k (zs.getD j 0))) ∧ (∀ j, w.frozen? ⟨g, j, none⟩ = false) := by
  have h' := h
  rcases h.2 with ⟨hv, hn⟩ | ⟨g, cap, cur, hv, hg, hh, hcap, _⟩
  · exact Or.inl ⟨hv, List.eq_nil_of_length_eq_zero hn⟩
  · refine Or.inr ⟨g, cap, hv, hcap, hg, lt_of_row hh, fun j hj => ?_, fun j => frozen_of_row w g j cur e hh⟩
    have := h'.cells (g := g) (by rw [hv]; rfl) j (.int k (zs.getD j 0)) (by simp [List.getD, hj])
    rw [Addr.add_lit] at this
    simpa using this

/-- A row that was made whole is owned. -/
theorem own_of_row {w : World} {base g n : Nat} {e : TypeId} {xs : List Value} (hg : w.heap[g]? = some (.cells xs.toArray e (0, 0))) (hb : base ≤ g) (hn : xs.length = n) (hm : n ≤ maxLen) :
    w.ownsRow base e 1 (.slice (some ⟨g, 0, none⟩) n n) n xs :=
  ⟨by simpa using hn, .inr ⟨g, n, xs.toArray, rfl, hb, hg, Nat.le_refl _, hm, by simpa using hn, by simp [← hn]⟩⟩

/-- 'make([]T, n)', n a variable, an element of one cell: the new row is known whole. -/
theorem wpList_make_row {P : Program} (w : World) {ops : Array Oper} {rest : List Oper} {o : Oper} {a : Act} {Q : Exit → Act → World → Prop}
    (hg : o.guard = none) (l c : Operand) (t : TypeId) (hop : o.op = Op.makeSlice t l c)
    (e : TypeId) (i : TypeInfo) (z : Value) (bytes : Nat) (h1 : P.underlying t = some (.slice e)) (h2 : P.info? e = some i) (h3 : i.zero = some z) (h4 : i.size = 1) (h5 : i.bytes = bytes) (h6 : z.cells = #[z])
    (kl kc : IntKind) (L C : Int) (n : Nat) (hl : a.eval l = .int kl L) (hc : a.eval c = .int kc C) (hL : L = (n : Int)) (hC : C = (n : Int)) (b2 : bytes * n ≤ 281474976710656) (b3 : n ≤ maxLen)
    (hK : ∀ w', w'.heap[w.heap.size]? = some (.cells (List.replicate n z).toArray e (0, 0)) → Kp (fun _ => True) w w' → w'.heap.size = w.heap.size + 1 → wpList P ops Q rest (a.put o.dst (.slice (some ⟨w.heap.size, 0, none⟩) n n)) w') :
    wpList P ops Q (o :: rest) a w := by
  refine wpList_plain hg fun K hK' => ?_
  subst hL; subst hC; subst h5
  have h63' : (n : Int) ≤ 9223372036854775807 := by
    have h := b3
    simp [maxLen] at h
    omega
  have hb' : (i.bytes : Int) * (n : Int) ≤ 281474976710656 := by
    have h : ((i.bytes * n : Nat) : Int) ≤ 281474976710656 := by omega
    rwa [Int.natCast_mul] at h
  have hr := run_make (P := P) w t e i z h1 h2 h3 kl kc n n (by omega) (Int.le_refl _) hb' h63'
  simp only [Int.toNat_natCast] at hr
  unfold Oper.wp
  simp [execOp, hop, hl, hc, hr, Result.andThen]
  refine hK' _ _ (hK _ ?_ ((Kp.refl _ _).alloc _) (by simp))
  rw [heap_alloc_new]
  have : madeCells z.cells (n * i.size) = (List.replicate n z).toArray := by
    apply Array.toList_inj.1
    rw [h6, h4, Nat.mul_one, toList_madeCells_one]
  rw [this]

/-- 'copy(dst, src)' where dst is a row of the call's own, known whole, and the whole of it is written. -/
theorem wpList_copy_whole {P : Program} {w : World} {ops : Array Oper} {rest : List Oper} {o : Oper} {a : Act} {Q : Exit → Act → World → Prop} (hgd : o.guard = none) (d s : Operand) (dT sT : TypeId)
    (ho : o.op = .call { callee := .builtin .copy, args := #[d, s], argTypes := #[dT, sT] }) (elem : TypeId) (hu : P.underlying dT = some (.slice elem)) (hsz : (P.info? elem).map (·.size) = some 1)
    (sp : Option Addr) (n dCap sCap : Nat) (g : Nat) (hd : a.eval d = .slice (some ⟨g, 0, none⟩) n dCap) (hs : a.eval s = .slice sp n sCap)
    (cur : List Value) (t : TypeId) (hg : w.heap[g]? = some (.cells cur.toArray t (0, 0))) (hcur : cur.length = n) (cs : List Value) (hn : cs.length = n)
    (hsrc : 0 < n → ∃ ad, sp = some ad ∧ ∀ j v, cs[j]? = some v → w.cell? (ad.add j) = some v) (h1 : ∀ v ∈ cs, v.oneCell' = true)
    (h : ∀ w', w'.heap[g]? = some (.cells cs.toArray t (0, 0)) → Kp (fun k => k ≠ g) w w' → w'.heap.size = w.heap.size → wpList P ops Q rest (a.put o.dst (goInt n)) w') :
    wpList P ops Q (o :: rest) a w := by
  by_cases h0 : n = 0
  · subst h0
    obtain rfl : cs = [] := List.eq_nil_of_length_eq_zero hn
    obtain rfl : cur = [] := List.eq_nil_of_length_eq_zero hcur
    exact wpList_copy_nothing hgd d s dT sT ho elem hu hsz _ sp _ dCap _ sCap hd hs (by simp) (h w hg (Kp.refl _ _) rfl)
  · obtain ⟨ad, rfl, hsr⟩ := hsrc (by omega)
    refine wpList_copy_own hgd d s dT sT ho elem hu hsz g 0 n dCap ad n sCap hd hs cur.toArray t hg cs (by simpa using hn) hsr (by simp [hn, hcur]) h1 ?_
    rw [hn]
    refine h _ ?_ ((Kp.refl _ _).setRow (by simp) _) (by simp)
    rw [setRow_heap w g _ _ t _ hg]
    simp [hcur]

theorem cell_kp {p : Nat → Prop} {w w1 : World} {a : Addr} {v : Value} (hk : Kp p w w1) (h : w.cell? a = some v) (hp : p a.block) : w1.cell? a = some v := by
  rw [World.cell?_of_block (w := w) (hk.block a.block (World.block_lt_of_cell? w _ h) hp)]; exact h

end Go.Proofs.YbulkawhcDoor.Lw
