import Derived.Test.YbulkawhcRows
import Derived.Test.YbulkawhcLaws
import Derived.ProofKit
namespace Go.Proofs.Ybulkawhc.Kee
open Go.ChangeShapes Go.WideShapes Go.ChangeAt Go.RowKit Go.Proofs.Ybulkawhc.Lw

theorem has_any (S M n cap c : Nat) (x r : Int) (w : World) (hc : c < n)
    (h7 : w.cell? ⟨S, 7, none⟩ = some (.slice (some ⟨M, 0, none⟩) n cap)) (h8 : w.cell? ⟨S, 8, none⟩ = some (.int .u32 r)) (hx : w.cell? ⟨M, c, none⟩ = some (.int .u32 x)) :
    Calls Yba.prog 6 #[.pointer (some ⟨S, 7, none⟩), .int .i64 (c : Int)] w fun e w' => e = .returned (.bool (x == r)) ∧ ∃ q, w' = w.drewN q := by
  have hc' : (c : Int) < (n : Int) := by omega
  go_enter Yba.func6, Yba.ntmps6
  go_wp2
  go_quiet (fail)
  go_wp2
  go_ret
  exact ⟨rfl, _, rfl⟩

theorem set_any (S M n cap c : Nat) (x r : Int) (w : World) (hc : c < n)
    (h7 : w.cell? ⟨S, 7, none⟩ = some (.slice (some ⟨M, 0, none⟩) n cap)) (h8 : w.cell? ⟨S, 8, none⟩ = some (.int .u32 r)) (hx : w.cell? ⟨M, c, none⟩ = some (.int .u32 x)) (hf : w.frozen? ⟨M, c, none⟩ = false) :
    Calls Yba.prog 7 #[.pointer (some ⟨S, 7, none⟩), .int .i64 (c : Int)] w fun e w' => e = .returned (.tuple #[]) ∧ w' = (w.setCell ⟨M, c, none⟩ (.int .u32 r)).drew := by
  have hc' : (c : Int) < (n : Int) := by omega
  go_enter Yba.func7, Yba.ntmps7
  go_wp2
  go_region
  go_end0
  exact ⟨rfl, rfl⟩

/-- The settler's struct, cell by cell. -/
def stc (v : Value) (M n : Nat) (r : Int) (b : Bool) : List Value :=
  [.slice none 0 0, .pointer none, .pointer none, .slice none 0 0, .slice none 0 0, v, .slice none 0 0, .slice (some ⟨M, 0, none⟩) n n, .int .u32 r, .slice none 0 0, .int .u32 0, .map none, .int .i64 0, .int .i64 0, .bool b]

/-- WHAT THE SETTLER HOLDS: its struct in block S, its marks in block M, what it has kept in a row of its own. -/
structure Own (B : Nat) (w : World) (S M : Nat) (v : Value) (marks : List Int) (r : Int) (kept : List Int) (b : Bool) : Prop where
  st : w.heap[S]? = some (.cells (stc v M marks.length r b).toArray 35 (0, 0))
  mrk : w.heap[M]? = some (.cells (marks.map (Value.int .u32)).toArray 23 (0, 0))
  kp : w.ownsRow B 3 1 v kept.length (kept.map (Value.int .i64))
  ne : S ≠ M
  ns : v.ownBlock ≠ some S
  nm : v.ownBlock ≠ some M
  bs : B ≤ S
  bm : B ≤ M

theorem Own.cellS {B : Nat} {w : World} {S M : Nat} {v : Value} {marks : List Int} {r : Int} {kept : List Int} {b : Bool} (h : Own B w S M v marks r kept b) (j : Nat) : w.cell? ⟨S, j, none⟩ = (stc v M marks.length r b)[j]? := by
  rw [cell_of_row w S j _ 35 (0, 0) h.st]; simp

theorem keep_seen (B S M c : Nat) (v : Value) (marks : List Int) (r : Int) (kept : List Int) (b : Bool) (w : World) (h : Own B w S M v marks r kept b) (hc : c < marks.length) (hx : marks.getD c 0 = r) :
    Calls Yba.prog 5 #[.pointer (some ⟨S, 0, none⟩), .int .i64 (c : Int)] w fun e w' => e = .returned (.tuple #[]) ∧ Own B w' S M v marks r kept false ∧ Kp (fun k => k ≠ S) w w' := by
  have h7 := h.cellS 7
  have h8 := h.cellS 8
  have h14 := h.cellS 14
  have f14 := frozen_of_row w S 14 _ 35 h.st
  have hm := cell_ints h.mrk hc
  simp only [stc, List.getElem?_cons_succ, List.getElem?_cons_zero] at h7 h8 h14
  rw [hx] at hm
  have H : Hid (Own B w S M v marks r kept b) := h
  have X : Hid (marks.getD c 0 = r) := hx
  clear h hx
  go_enter Yba.func5, Yba.ntmps5
  go_wp2_with (go_at_call 6; refine (has_any S M marks.length marks.length c r r _ hc (by simpa using h7) (by simpa using h8) (by simpa using hm)).mono ?_; rintro e w' ⟨rfl, q, rfl⟩)
  refine bodyPost_ret (results_none rfl _ _ _) rfl ?_
  have h := H.out
  refine ⟨rfl, ?_, ?_⟩
  · have k : Kp (fun k => k ≠ S) w ((w.setCell ⟨S, 14, none⟩ (.bool false)).drewN q) := ((Kp.refl _ _).setCell (by simp) _).drewN q
    exact ⟨set_row h.st 14 (.bool false), k.row h.mrk (Ne.symm h.ne), own_kp h.kp k (fun g hg e => h.ns (by rw [hg, e])), h.ne, h.ns, h.nm, h.bs, h.bm⟩
  · exact ((Kp.refl _ _).setCell (by simp) _).drewN q

theorem Yba.info3 : (Yba.prog.info? 3).map (fun i => (i.zero, i.size, i.bytes)) = some (some (.int .i64 0), 1, 8) := by kernel_rfl

/-- The world behind 'seen.set' and the slice literal. -/
theorem mid_kp {w : World} {M c : Nat} {r : Int} (q : Nat) (o : Obj) : Kp (fun k => k ≠ M) w (((w.drewN q).setCell ⟨M, c, none⟩ (.int .u32 r)).alloc o).drew :=
  ((((Kp.refl _ _).drewN q).setCell (by simp) _).alloc _).drew
theorem mid_new {w : World} {M c : Nat} {r : Int} {u : Value} {t : TypeId} (q : Nat) : (((w.drewN q).setCell ⟨M, c, none⟩ (.int .u32 r)).alloc (.cells #[u] t)).drew.cell? ((⟨w.heap.size, 0, none⟩ : Addr).add 0) = some u := by
  have e : ((w.drewN q).setCell ⟨M, c, none⟩ (.int .u32 r)).heap.size = w.heap.size := by simp [World.setCell]
  have h := heap_alloc_new ((w.drewN q).setCell ⟨M, c, none⟩ (.int .u32 r)) (.cells #[u] t)
  rw [e] at h
  rw [Addr.add_lit]
  exact cell_of_row _ _ _ _ t (0, 0) h
theorem own_mid {B : Nat} {w : World} {S M c : Nat} {v : Value} {marks : List Int} {r : Int} {kept : List Int} {b : Bool} (h : Own B w S M v marks r kept b) (q : Nat) (o : Obj) :
    (((w.drewN q).setCell ⟨M, c, none⟩ (.int .u32 r)).alloc o).drew.ownsRow B 3 1 v kept.length (kept.map (Value.int .i64)) :=
  own_kp h.kp (mid_kp q o) (fun g hg e => h.nm (by rw [hg, e]))
theorem mid_S {B : Nat} {w w1 : World} {S M c : Nat} {v : Value} {marks : List Int} {r : Int} {kept : List Int} {b : Bool} (h : Own B w S M v marks r kept b) (q : Nat) (o : Obj)
    (hg : (((w.drewN q).setCell ⟨M, c, none⟩ (.int .u32 r)).alloc o).drew.grownBy w1 v.ownBlock) : w1.heap[S]? = some (.cells (stc v M marks.length r b).toArray 35 (0, 0)) :=
  (Kp.ofGrown hg).row ((mid_kp q o).row h.st h.ne) (fun e => h.ns e.symm)
theorem mid_M {B : Nat} {w w1 : World} {S M c : Nat} {v : Value} {marks : List Int} {r : Int} {kept : List Int} {b : Bool} (h : Own B w S M v marks r kept b) (q : Nat) (o : Obj)
    (hg : (((w.drewN q).setCell ⟨M, c, none⟩ (.int .u32 r)).alloc o).drew.grownBy w1 v.ownBlock) : w1.heap[M]? = some (.cells ((marks.set c r).map (Value.int .u32)).toArray 23 (0, 0)) := by
  refine (Kp.ofGrown hg).row ?_ (fun e => h.nm e.symm)
  have hl := lt_of_row h.mrk
  have e1 := set_ints (w := w.drewN q) (g := M) h.mrk c r
  exact ((Kp.refl (fun _ => True) ((w.drewN q).setCell ⟨M, c, none⟩ (.int .u32 r))).alloc o).drew.row e1 trivial

/-- What the settler holds behind 'st.kept = append(st.kept, class)'. -/
theorem mid_end {B : Nat} {w w1 : World} {S M c : Nat} {v : Value} {marks : List Int} {r : Int} {kept : List Int} {b : Bool} {g cap : Nat} (h : Own B w S M v marks r kept b) (q : Nat) (o : Obj)
    (hown : w1.ownsRow B 3 1 (.slice (some ⟨g, 0, none⟩) (kept.length + 1) cap) (kept.length + 1) (kept.map (Value.int .i64) ++ [.int .i64 (c : Int)]))
    (hg : (((w.drewN q).setCell ⟨M, c, none⟩ (.int .u32 r)).alloc o).drew.grownBy w1 v.ownBlock) (hat : v.ownBlock = some g ∨ g = w.heap.size + 1) :
    Own B (w1.setCell ⟨S, 5, none⟩ (.slice (some ⟨g, 0, none⟩) (kept.length + 1) cap)) S M (.slice (some ⟨g, 0, none⟩) (kept.length + 1) cap) (marks.set c r) r (kept ++ [(c : Int)]) b ∧
      Kp (fun k => k ≠ S ∧ k ≠ M ∧ some k ≠ v.ownBlock) w (w1.setCell ⟨S, 5, none⟩ (.slice (some ⟨g, 0, none⟩) (kept.length + 1) cap)) ∧ (v.ownBlock = some g ∨ g = w.heap.size + 1) := by
  have hS := mid_S h q o hg
  have hM := mid_M h q o hg
  have lS := lt_of_row h.st
  have lM := lt_of_row h.mrk
  have gS : g ≠ S := by
    rcases hat with hat | hat
    · intro e; exact h.ns (by rw [hat, e])
    · omega
  have gM : g ≠ M := by
    rcases hat with hat | hat
    · intro e; exact h.nm (by rw [hat, e])
    · omega
  have k1 : Kp (fun k => k ≠ S) w1 (w1.setCell ⟨S, 5, none⟩ (.slice (some ⟨g, 0, none⟩) (kept.length + 1) cap)) := (Kp.refl _ _).setCell (by simp) _
  refine ⟨⟨?_, k1.row hM (Ne.symm h.ne), ?_, h.ne, ?_, ?_, h.bs, h.bm⟩, ?_, hat⟩
  · rw [set_row hS]; simp [stc]
  · have := own_kp hown k1 (fun g' hg' e => gS (by simp [Value.ownBlock] at hg'; omega))
    simpa using this
  · simpa [Value.ownBlock] using gS
  · simpa [Value.ownBlock] using gM
  · have k2 : Kp (fun k => k ≠ S ∧ k ≠ M ∧ some k ≠ v.ownBlock) w w1 := ((mid_kp q o).mono (fun k _ hk => hk.2.1)).trans ((Kp.ofGrown hg).mono (fun k _ hk => hk.2.2))
    exact k2.trans (k1.mono (fun k _ hk => hk.1))

theorem keep_new (B S M c : Nat) (v : Value) (marks : List Int) (r : Int) (kept : List Int) (b : Bool) (w : World) (h : Own B w S M v marks r kept b) (hc : c < marks.length) (hx : marks.getD c 0 ≠ r) (hl : kept.length ≤ 100000) :
    Calls Yba.prog 5 #[.pointer (some ⟨S, 0, none⟩), .int .i64 (c : Int)] w fun e w' => e = .returned (.tuple #[]) ∧ ∃ v', Own B w' S M v' (marks.set c r) r (kept ++ [(c : Int)]) b ∧ Kp (fun k => k ≠ S ∧ k ≠ M ∧ some k ≠ v.ownBlock) w w' ∧ (∀ g, v'.ownBlock = some g → v.ownBlock = some g ∨ g = w.heap.size + 1) := by
  have h7 := h.cellS 7
  have h8 := h.cellS 8
  have h5 := h.cellS 5
  have f5 := frozen_of_row w S 5 _ 35 h.st
  have hm := cell_ints h.mrk hc
  have hf := frozen_of_row w M c _ 23 h.mrk
  simp only [stc, List.getElem?_cons_succ, List.getElem?_cons_zero] at h7 h8 h5
  have hne : (marks.getD c 0 == r) = false := by simpa using hx
  have hSM := h.ne
  have hlt := lt_of_row h.st
  have hlm := lt_of_row h.mrk
  generalize marks.getD c 0 = x at *
  have H : Hid (Own B w S M v marks r kept b) := h
  clear h hx
  obtain ⟨i0, hi, hz0, hz1, hz2⟩ := info_parts Yba.info3
  go_enter Yba.func5, Yba.ntmps5
  go_wp2_with (first
    | (go_at_call 6; refine (has_any S M marks.length marks.length c x r _ hc (by simpa using h7) (by simpa using h8) (by simpa using hm)).mono ?_; rintro e w' ⟨rfl, q, rfl⟩)
    | (go_at_call 7; refine (set_any S M marks.length marks.length c x r _ hc (by simpa using h7) (by simpa using h8) (by simpa using hm) (by simpa using hf)).mono ?_; rintro e w' ⟨rfl, rfl⟩)
    | (at_builtin; refine wpList_append_lies _ rfl _ _ 24 rfl B 3 i0 (.int .i64 0) 1 8 Yba.underlying24 hi hz0 hz1 hz2 rfl (by decide) v kept.length (kept.map (Value.int .i64)) rfl (own_mid H.out q _) ⟨w.heap.size, 0, none⟩ 1 1 [.int .i64 (c : Int)] rfl rfl ?c1 ?c2 (by omega) ?c3 ?c4 ?c5 (w.heap.size + 1) ?c6 ?_))
  case c1 =>
    intro j u hj
    match j, hj with
    | 0, hj => simp at hj; subst hj; exact mid_new q
  case c2 => intro u hu; simp at hu; subst hu; rfl
  case c3 => unfold maxLen; omega
  case c4 => omega
  case c5 => have := H.out.bs; simp; omega
  case c6 => simp
  intro g cap w1 hown hgrow hat hlt1
  have hS : w1.heap[S]? = some (.cells (stc v M marks.length r b).toArray 35 (0, 0)) := mid_S H.out q _ hgrow
  have hM := mid_M H.out q _ hgrow
  have s5 : w1.cell? ⟨S, 5, none⟩ = some v := by rw [cell_of_row w1 S 5 _ 35 (0, 0) hS]; rfl
  have t5 := frozen_of_row w1 S 5 _ 35 hS
  have fin := mid_end H.out q _ hown hgrow hat
  have HF : Hid (_ ∧ _ ∧ _) := fin
  clear hown hgrow hS hM fin hat hlt1
  go_wp2
  go_end0
  exact ⟨rfl, _, HF.out.1, HF.out.2.1, fun g' hg' => by simp [Value.ownBlock] at hg'; subst hg'; exact HF.out.2.2⟩

end Go.Proofs.Ybulkawhc.Kee
