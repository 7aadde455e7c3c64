import Derived.Test.YbulkawhcDoorDecl
import Derived.Deep.MidRow
import Derived.OwnWalk
namespace Go.Proofs.YbulkawhcDoor.Po
open Go.ChangeShapes Go.WideShapes Go.ChangeAt Go.RowKit Go.Maps Go.Proofs.YbulkawhcDoor.Lw Go.Proofs.YbulkawhcDoor Go.Proofs.YbulkawhcDoor.Pl Go.Proofs.YbulkawhcDoor.Se Go.Proofs.YbulkawhcDoor.De Go.Proofs.YbulkawhcDoor.Me

theorem info77 : (Ybad.prog.info? 77).map (fun i => (i.zero, i.size, i.bytes)) = some (some (.agg #[.string ⟨#[]⟩, .int .i64 0, .bool false, .slice none 0 0]), 4, 56) := by kernel_rfl
theorem info37 : (Ybad.prog.info? 37).map (fun i => (i.zero, i.size, i.bytes)) = some (some (.slice none 0 0), 1, 24) := by kernel_rfl
theorem info3 : (Ybad.prog.info? 3).map (fun i => (i.zero, i.size, i.bytes)) = some (some (.int .i64 0), 1, 8) := by kernel_rfl
theorem zero3 (w : World) : (zeroValue 3).run Ybad.prog w = .ok (.int .i64 0) w := by kernel_rfl

/-! ### Names -/
def klE (s : ByteArray) : Lit := .string s.data.toList
theorem kn_size (x : Nat) : (kn x).size = 2 := by unfold kn; split <;> rfl
theorem nm_size (x : Nat) : (nm x).size = 2 := by unfold nm; split <;> rfl
theorem en_size (ms : List Mem) (i : Nat) : (en ms i).size = 2 := by unfold en; split; exact kn_size _; exact nm_size _
theorem key_en (ms : List Mem) (i : Nat) : keyOf Ybad.prog 9 (.string (en ms i)) = some (klE (en ms i)) := WideMaps.keyOf_string_mk Ybad.underlying9 (by rw [en_size]; unfold maxLen; decide)
theorem klE_inj {a b : ByteArray} (h : klE a = klE b) : a = b := by
  simp only [klE, Lit.string.injEq] at h
  have : a.data = b.data := Array.toList_inj.1 h
  cases a; cases b; simp at this; rw [this]
theorem nm_inj {a b : Nat} (ha : a < 8) (hb : b < 8) (h : nm a = nm b) : a = b := by
  have := nm_eq a b ha hb
  rw [h] at this
  simpa using this.symm
theorem kn_inj {a b : Nat} (ha : a < 3) (hb : b < 3) (h : kn a = kn b) : a = b := by
  have := kn_eq a b ha hb
  rw [h] at this
  simpa using this.symm
theorem nk_inj {a b : Nat} (ha : a < 8) (hb : b < 3) (h : nm a = kn b) : False := by
  have := nk_ne a b ha hb
  rw [h] at this
  simp at this
theorem getD_mem {ms : List Mem} {i : Nat} (h : i < ms.length) : ms.getD i (0, 0) ∈ ms := by
  rw [show ms.getD i (0, 0) = ms[i] by simp [List.getD, h]]; exact List.getElem_mem h
theorem good_inj {ms : List Mem} (g : Pl.Good ms) {i j : Nat} (hi : i < ms.length) (hj : j < ms.length) (h : (ms.getD i (0, 0)).1 = (ms.getD j (0, 0)).1) : i = j := by
  have nd := List.pairwise_iff_getElem.1 g.nd
  have e1 : ∀ k (hk : k < ms.length), (ms.map (·.1))[k]'(by simpa using hk) = (ms.getD k (0, 0)).1 := fun k hk => by simp [List.getD, hk]
  rcases Nat.lt_trichotomy i j with h1 | h1 | h1
  · exact absurd (by rw [e1 i hi, e1 j hj]; exact h) (nd i j (by simpa using hi) (by simpa using hj) h1)
  · exact h1
  · exact absurd (by rw [e1 i hi, e1 j hj]; exact h.symm) (nd j i (by simpa using hj) (by simpa using hi) h1)
theorem en_inj {ms : List Mem} (g : Pl.Good ms) {i j : Nat} (hi : i < 3 + ms.length) (hj : j < 3 + ms.length) (h : en ms i = en ms j) : i = j := by
  unfold en at h
  by_cases h1 : i < 3 <;> by_cases h2 : j < 3
  · rw [if_pos h1, if_pos h2] at h; exact kn_inj h1 h2 h
  · rw [if_pos h1, if_neg h2] at h; exact (nk_inj (g.lt _ (getD_mem (i := j - 3) (by omega))).1 h1 h.symm).elim
  · rw [if_neg h1, if_pos h2] at h; exact (nk_inj (g.lt _ (getD_mem (i := i - 3) (by omega))).1 h2 h).elim
  · rw [if_neg h1, if_neg h2] at h
    have := good_inj g (i := i - 3) (j := j - 3) (by omega) (by omega) (nm_inj (g.lt _ (getD_mem (by omega))).1 (g.lt _ (getD_mem (by omega))).1 h)
    omega

/-! ### The map -/
structure Mp (D : DataW Unit) (ms : List Mem) (k : Nat) : Prop where
  mp : IsMap D
  at' : ∀ i, i < k → ∀ z, D.atKey (klE (en ms i)) z = .lit (.int .i64 (i : Int))
  no : ∀ key, (∀ i, i < k → key ≠ klE (en ms i)) → Maps.has D key = false
theorem mp_start (ms : List Mem) : Mp (.map []) ms 0 := ⟨isMap_empty, fun i hi => absurd hi (by omega), fun key _ => by simp [Maps.has]⟩
theorem mp_step {D : DataW Unit} {ms : List Mem} {k : Nat} (g : Pl.Good ms) (h : Mp D ms k) (hk : k < 3 + ms.length) : Mp (D.put (klE (en ms k)) (.lit (.int .i64 (k : Int)))) ms (k + 1) := by
  refine ⟨h.mp.put _ _, fun i hi z => ?_, fun key hkey => ?_⟩
  · by_cases e : i = k
    · subst e
      rw [atKey_put_same h.mp (show WideAt.IsKeyLit (klE _) from trivial)]
    · rw [atKey_put_other (fun e' => e (en_inj g (by omega) hk (klE_inj e')))]
      exact h.at' i (by omega) z
  · rw [has_put_other (hkey k (by omega))]
    exact h.no key (fun i hi => hkey i (by omega))
/-- What a lookup finds. -/
theorem mp_look {D : DataW Unit} {ms : List Mem} {n : Nat} (h : Mp D ms n) (s : ByteArray) : (∃ j, j < n ∧ en ms j = s ∧ (∀ z, D.atKey (klE s) z = .lit (.int .i64 (j : Int))) ∧ Maps.has D (klE s) = true) ∨ ((∀ j, j < n → en ms j ≠ s) ∧ Maps.has D (klE s) = false) := by
  by_cases hx : ∃ j, j < n ∧ en ms j = s
  · obtain ⟨j, hj, e⟩ := hx
    refine .inl ⟨j, hj, e, ?_, ?_⟩
    · rw [← e]; exact h.at' j hj
    · rw [← e]; exact has_true_of_atKey (h.at' j hj)
  · refine .inr ⟨fun j hj e => hx ⟨j, hj, e⟩, h.no _ (fun i hi e => hx ⟨i, hi, (klE_inj e).symm⟩)⟩

/-! ### The entries -/
def ecells (ms : List Mem) (i : Nat) : List Value := [.string (en ms i), .int .i64 0, .bool (decide (i < 3)), .slice none 0 0]
def erow (ms : List Mem) : Nat → List Value
  | 0 => []
  | k + 1 => erow ms k ++ ecells ms k
theorem erow_len (ms : List Mem) : ∀ k, (erow ms k).length = k * 4
  | 0 => rfl
  | k + 1 => by rw [erow, List.length_append, erow_len ms k]; simp [ecells]; omega
theorem erow_get (ms : List Mem) : ∀ k i t, i < k → t < 4 → (erow ms k)[i * 4 + t]? = (ecells ms i)[t]?
  | 0, i, t, h, _ => by omega
  | k + 1, i, t, h, ht => by
    rw [erow]
    by_cases e : i = k
    · subst e
      rw [List.getElem?_append_right (by rw [erow_len]; omega), erow_len]
      congr 1; omega
    · rw [List.getElem?_append_left (by rw [erow_len]; omega)]
      exact erow_get ms k i t (by omega) ht

/-! ### The classes of a mask -/
def tb (m t : Nat) : Bool := (m / 2 ^ t) % 2 == 1
def bt (m t : Nat) : List Nat := (bitsL m).filter (fun x => decide (x < t))
theorem bt_0 (m : Nat) : bt m 0 = [] := by simp [bt]
theorem bt_step (m t : Nat) (hm : m < 8) (ht : t < 3) : bt m (t + 1) = if tb m t then bt m t ++ [t] else bt m t := by
  have h : ∀ (a : Fin 8) (b : Fin 3), bt a (b + 1) = if tb a b then bt a b ++ [b.val] else bt a b := by decide +kernel
  exact h ⟨m, hm⟩ ⟨t, ht⟩
theorem bt_3 (m : Nat) (hm : m < 8) : bt m 3 = bitsL m := by
  have h : ∀ (a : Fin 8), bt a 3 = bitsL a := by decide +kernel
  exact h ⟨m, hm⟩
theorem bt_len (m t : Nat) : (bt m t).length ≤ 3 := Nat.le_trans (List.length_filter_le _ _) (bits_3 m).1

/-! ### The namespace's block, while it is laid -/
def ncs (M : Nat) (ev lv : Value) : List Value := [.map (some M), ev, .slice none 0 0, lv, .slice none 0 0, .slice none 0 0, .slice none 0 0, .slice none 0 0, .slice none 0 0, .slice none 0 0, .pointer none, .slice none 0 0, .slice none 0 0, .int .u8 0, .pointer none, .slice none 0 0, .slice none 0 0, .int .u8 0, .int .i64 0, .slice none 0 0, .slice none 0 0, .slice none 0 0, .pointer none]
structure PS (w0 wr : World) (N M L : Nat) (ev : Value) (D : DataW Unit) (n km ke kl : Nat) (ms : List Mem) : Prop where
  nb : wr.heap[N]? = some (.cells (ncs M ev (.slice (some ⟨L, 0, none⟩) n n)).toArray 74 (0, 0))
  eo : wr.ownsRow w0.heap.size 77 4 ev ke (erow ms ke)
  mo : wr.ownsMap Ybad.prog 9 (plainElem (H := Unit) Ybad.prog 3) M km D
  md : Mp D ms km
  lr : ∃ lf : Nat → Value, wr.heap[L]? = some (.cells (rowF n lf).toArray 37 (0, 0)) ∧
    (∀ i, i < kl → ∃ la lc, lf i = .slice la (cls ms i).length lc ∧ ∀ t, t < (cls ms i).length → ∃ g, la = some ⟨g, 0, none⟩ ∧ g ≠ N ∧ g ≠ M ∧ g ≠ L ∧ some g ≠ ev.ownBlock ∧ wr.cell? ⟨g, t, none⟩ = some (.int .i64 ((cls ms i).getD t 0 : Int))) ∧
    (∀ i, kl ≤ i → lf i = .slice none 0 0)
  nm' : N ≠ M
  nl' : N ≠ L
  ml' : M ≠ L
  ne : some N ≠ ev.ownBlock
  me : some M ≠ ev.ownBlock
  le : some L ≠ ev.ownBlock
  bn : w0.heap.size ≤ N
  bm : w0.heap.size ≤ M
  bl : w0.heap.size ≤ L
  kp : Kp (fun _ => True) w0 wr
theorem ps_keep {w0 wr w1 : World} {N M L : Nat} {ev : Value} {D : DataW Unit} {n km ke kl : Nat} {ms : List Mem} (h : PS w0 wr N M L ev D n km ke kl ms) (hk : Kp (fun _ => True) wr w1) : PS w0 w1 N M L ev D n km ke kl ms := by
  obtain ⟨lf, l1, l2, l3⟩ := h.lr
  exact ⟨hk.row h.nb trivial, own_kp h.eo hk (fun _ _ => trivial), own_map_kp h.mo hk, h.md, ⟨lf, hk.row l1 trivial, fun i hi => by
    obtain ⟨la, lc, e, hg⟩ := l2 i hi
    refine ⟨la, lc, e, fun t ht => ?_⟩
    obtain ⟨g, a, b, c, d, f, hc⟩ := hg t ht
    exact ⟨g, a, b, c, d, f, cell_kp hk hc trivial⟩, l3⟩, h.nm', h.nl', h.ml', h.ne, h.me, h.le, h.bn, h.bm, h.bl, h.kp.trans hk⟩
theorem ps_map {w0 wr w1 : World} {N M L : Nat} {ev : Value} {D D' : DataW Unit} {n km km' ke kl : Nat} {ms : List Mem} (h : PS w0 wr N M L ev D n km ke kl ms) (hg : wr.grownBy w1 (some M)) (ho : w1.ownsMap Ybad.prog 9 (plainElem (H := Unit) Ybad.prog 3) M km' D') (hd : Mp D' ms km') : PS w0 w1 N M L ev D' n km' ke kl ms := by
  have hk : Kp (fun k => k ≠ M) wr w1 := ⟨hg.os, hg.tape, hg.output, hg.size, fun i hi hne => hg.block i hi (by simpa using hne)⟩
  obtain ⟨lf, l1, l2, l3⟩ := h.lr
  exact ⟨hk.row h.nb h.nm', own_kp h.eo hk (fun g hg' e => h.me (by rw [← e]; exact hg'.symm)), ho, hd, ⟨lf, hk.row l1 (Ne.symm h.ml'), fun i hi => by
    obtain ⟨la, lc, e, hg⟩ := l2 i hi
    refine ⟨la, lc, e, fun t ht => ?_⟩
    obtain ⟨g, a, b, c, d, f, hc⟩ := hg t ht
    exact ⟨g, a, b, c, d, f, cell_kp hk hc c⟩, l3⟩, h.nm', h.nl', h.ml', h.ne, h.me, h.le, h.bn, h.bm, h.bl, ⟨hk.os.trans h.kp.os, hk.tape.trans h.kp.tape, hk.output.trans h.kp.output, Nat.le_trans h.kp.size hk.size, fun k hk' _ => (hk.block k (Nat.lt_of_lt_of_le hk' h.kp.size) (by have := h.bm; omega)).trans (h.kp.block k hk' trivial)⟩⟩
/-- An entry is appended, and the slice laid in its field. -/
theorem ps_ent {w0 wr w1 : World} {N M L : Nat} {ev : Value} {D : DataW Unit} {n km ke kl g cap : Nat} {ms : List Mem} {o : Obj} (h : PS w0 wr N M L ev D n km ke kl ms) (hg : (wr.alloc o).grownBy w1 ev.ownBlock)
    (ho : w1.ownsRow w0.heap.size 77 4 (.slice (some ⟨g, 0, none⟩) (ke + 1) cap) (ke + 1) (erow ms ke ++ ecells ms ke)) (hat : ev.ownBlock = some g ∨ g = wr.heap.size + 1) :
    PS w0 (w1.setCell ⟨N, 1, none⟩ (.slice (some ⟨g, 0, none⟩) (ke + 1) cap)) N M L (.slice (some ⟨g, 0, none⟩) (ke + 1) cap) D n km (ke + 1) kl ms := by
  have hk0 : Kp (fun k => some k ≠ ev.ownBlock) wr w1 := ((Kp.refl _ _).alloc o).trans (Kp.ofGrown hg)
  have hNl : N < wr.heap.size := lt_of_row h.nb
  have hMl : M < wr.heap.size := h.mo.lt
  obtain ⟨lf, l1, l2, l3⟩ := h.lr
  have hLl : L < wr.heap.size := lt_of_row l1
  have hne : ∀ b, b < wr.heap.size → some b ≠ ev.ownBlock → b ≠ g := fun b hb hb' e => by
    rcases hat with h1 | h1
    · exact hb' (by rw [h1, e])
    · omega
  have hNg : N ≠ g := hne N hNl h.ne
  have hk : Kp (fun k => k ≠ N ∧ some k ≠ ev.ownBlock) wr (w1.setCell ⟨N, 1, none⟩ (.slice (some ⟨g, 0, none⟩) (ke + 1) cap)) := (hk0.mono (fun _ _ h => h.2)).setCell (.inl (fun h => h.1 rfl)) _
  have hk2 : Kp (fun k => k ≠ N) w1 (w1.setCell ⟨N, 1, none⟩ (.slice (some ⟨g, 0, none⟩) (ke + 1) cap)) := (Kp.refl _ _).setCell (.inl (fun h => h rfl)) _
  refine ⟨?_, ?_, ?_, h.md, ⟨lf, hk.row l1 ⟨Ne.symm h.nl', h.le⟩, fun i hi => ?_, l3⟩, h.nm', h.nl', h.ml', ?_, ?_, ?_, h.bn, h.bm, h.bl, ?_⟩
  · have := set_row (hk0.row h.nb h.ne) 1 (.slice (some ⟨g, 0, none⟩) (ke + 1) cap)
    exact this
  · exact own_kp ho hk2 (fun b hb => by
      simp [Value.ownBlock] at hb; subst hb; exact Ne.symm hNg)
  · have hm1 : w1.ownsMap Ybad.prog 9 (plainElem (H := Unit) Ybad.prog 3) M km D := by
      obtain ⟨es, clock, hb, r⟩ := h.mo
      exact ⟨es, clock, hk0.row hb h.me, r⟩
    exact hm1.setCell (a := ⟨N, 1, none⟩) (Ne.symm h.nm') _
  · obtain ⟨la, lc, e, hg'⟩ := l2 i hi
    refine ⟨la, lc, e, fun t ht => ?_⟩
    obtain ⟨b, a1, a2, a3, a4, a5, hc⟩ := hg' t ht
    refine ⟨b, a1, a2, a3, a4, ?_, cell_kp hk hc ⟨a2, a5⟩⟩
    intro e
    simp [Value.ownBlock] at e
    exact hne b (World.block_lt_of_cell? wr _ hc) a5 e
  · intro e; simp [Value.ownBlock] at e; exact hNg e
  · intro e; simp [Value.ownBlock] at e; exact hne M hMl h.me e
  · intro e; simp [Value.ownBlock] at e; exact hne L hLl h.le e
  · refine ⟨hk.os.trans h.kp.os, hk.tape.trans h.kp.tape, hk.output.trans h.kp.output, Nat.le_trans h.kp.size hk.size, fun k hk' _ => (hk.block k (Nat.lt_of_lt_of_le hk' h.kp.size) ⟨by have := h.bn; omega, fun e => ?_⟩).trans (h.kp.block k hk' trivial)⟩
    have := (own_lt h.eo e.symm).1
    omega
/-- A row of classes is laid in the links. -/
theorem ps_lnk {w0 wr : World} {N M L : Nat} {ev : Value} {D : DataW Unit} {n km ke kl : Nat} {ms : List Mem} (h : PS w0 wr N M L ev D n km ke kl ms) (la : Option Addr) (lc : Nat)
    (hcl : ∀ t, t < (cls ms kl).length → ∃ g, la = some ⟨g, 0, none⟩ ∧ g ≠ N ∧ g ≠ M ∧ g ≠ L ∧ some g ≠ ev.ownBlock ∧ wr.cell? ⟨g, t, none⟩ = some (.int .i64 ((cls ms kl).getD t 0 : Int))) :
    PS w0 (wr.setCell ⟨L, kl, none⟩ (.slice la (cls ms kl).length lc)) N M L ev D n km ke (kl + 1) ms := by
  obtain ⟨lf, l1, l2, l3⟩ := h.lr
  have hk : Kp (fun k => k ≠ L) wr (wr.setCell ⟨L, kl, none⟩ (.slice la (cls ms kl).length lc)) := (Kp.refl _ _).setCell (.inl (fun h => h rfl)) _
  refine ⟨hk.row h.nb h.nl', own_kp h.eo hk (fun g hg e => h.le (by rw [← e]; exact hg.symm)), h.mo.setCell (a := ⟨L, kl, none⟩) h.ml' _, h.md, ⟨fun i => if i = kl then .slice la (cls ms kl).length lc else lf i, ?_, fun i hi => ?_, fun i hi => ?_⟩, h.nm', h.nl', h.ml', h.ne, h.me, h.le, h.bn, h.bm, h.bl, ?_⟩
  · rw [← rowF_set]; exact set_row l1 kl _
  · by_cases e : i = kl
    · subst e
      refine ⟨la, lc, by simp, fun t ht => ?_⟩
      obtain ⟨g, a1, a2, a3, a4, a5, hc⟩ := hcl t ht
      exact ⟨g, a1, a2, a3, a4, a5, cell_kp hk hc a4⟩
    · obtain ⟨la', lc', e', hg'⟩ := l2 i (by omega)
      refine ⟨la', lc', by simp [e, e'], fun t ht => ?_⟩
      obtain ⟨g, a1, a2, a3, a4, a5, hc⟩ := hg' t ht
      exact ⟨g, a1, a2, a3, a4, a5, cell_kp hk hc a4⟩
  · have : i ≠ kl := by omega
    simp [this]; exact l3 i (by omega)
  · exact ⟨hk.os.trans h.kp.os, hk.tape.trans h.kp.tape, hk.output.trans h.kp.output, Nat.le_trans h.kp.size hk.size, fun k hk' _ => (hk.block k (Nat.lt_of_lt_of_le hk' h.kp.size) (by have := h.bl; omega)).trans (h.kp.block k hk' trivial)⟩
theorem cells4 (w : World) (x y z u : Value) (t : TypeId) : ∀ j v, [x, y, z, u][j]? = some v → (w.alloc (.cells #[x, y, z, u] t)).cell? ((⟨w.heap.size, 0, none⟩ : Addr).add j) = some v := by
  intro j v hj
  rw [Addr.add_lit, cell_of_row _ _ _ _ t (0, 0) (heap_alloc_new w _)]
  simpa using hj
theorem one4 (s : ByteArray) (n : Int) (b : Bool) : ∀ u ∈ [Value.string s, .int .i64 n, .bool b, .slice none 0 0], u.oneCell' = true := by
  intro u hu; simp at hu; rcases hu with rfl | rfl | rfl | rfl <;> rfl
theorem cells1 (w : World) (x : Value) (t : TypeId) : ∀ j v, [x][j]? = some v → (w.alloc (.cells #[x] t)).cell? ((⟨w.heap.size, 0, none⟩ : Addr).add j) = some v := by
  intro j v hj
  rw [Addr.add_lit, cell_of_row _ _ _ _ t (0, 0) (heap_alloc_new w _)]
  simpa using hj
theorem one1 (n : Int) : ∀ u ∈ [Value.int .i64 n], u.oneCell' = true := by
  intro u hu; simp at hu; subst hu; rfl
/-- A whole value goes into the block that was made last. -/
theorem wpList_store_new {P : Program} {ops : Array Oper} {rest : List Oper} {o : Oper} {a : Act} {w : World} {Q : Exit → Act → World → Prop} (hgd : o.guard = none) (ty : TypeId) (x y : Operand) (ho : o.op = .store ty x y)
    (t : TypeId) (old : Array Value) (cs : List Value) (hx : a.eval x = .pointer (some ⟨w.heap.size, 0, none⟩)) (hy : a.eval y = .agg cs.toArray) (hi : (P.info? ty).map (·.size) = some cs.length) (hold : old.size = cs.length) (h1 : ∀ v ∈ cs, v.oneCell' = true)
    (h : ∀ w', w'.heap[w.heap.size]? = some (.cells cs.toArray t (0, 0)) → Kp (fun _ => True) w w' → w'.heap.size = w.heap.size + 1 → wpList P ops Q rest (a.put o.dst undef) w') : wpList P ops Q (o :: rest) a (w.alloc (.cells old t)) := by
  refine wpList_store_row hgd ty x y ho w.heap.size cs.toArray hx hy t old (heap_alloc_new _ _) (by simpa using hi) (by simpa using hold) (all_oneCell_toArray h1) (h _ ?_ ?_ ?_)
  · rw [setRow_heap _ _ _ _ t _ (heap_alloc_new _ _)]
  · exact ((Kp.refl _ _).alloc _).setRow (.inr (Nat.le_refl _)) _
  · simp
theorem ncs_one (M : Nat) (ua ub : Option Addr) (l1 c1 l2 c2 : Nat) : ∀ v ∈ ncs M (.slice ua l1 c1) (.slice ub l2 c2), v.oneCell' = true := by
  intro v hv
  simp only [ncs, List.mem_cons, List.not_mem_nil, or_false] at hv
  repeat (rcases hv with rfl | hv; rfl)
theorem size74 : (Ybad.prog.info? 74).map (·.size) = some 23 := by kernel_rfl
end Go.Proofs.YbulkawhcDoor.Po
