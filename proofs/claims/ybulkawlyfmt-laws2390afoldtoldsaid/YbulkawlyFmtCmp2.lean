import Derived.Test.YbulkawlyFmtCmp
import Derived.WalkLawsBesides
namespace Go.Proofs.YbulkawlyFmt.Cm
open Go.ChangeShapes Go.WideShapes Go.ChangeAt Go.RowKit Go.Proofs.YbulkawlyFmt.Lw Go.Proofs.YbulkawlyFmt.Pl Go.Proofs.YbulkawlyFmt.Lf

def tway (s t : List UInt8) : Int := if Op.bytesLess s t = true then -1 else if s == t then 0 else 1
theorem cb : ∀ a b : Fin 12, Lib.compareBytes (tx a) (tx b) = tway (tx a) (tx b) := by decide +kernel
theorem way_eq (a b : Nat) (qa qb : Bool) : way a b qa qb = if ((isI a && !qa) && (isI b && !qb)) = true then cmpi (num a) (num b) else tway (tx a) (tx b) := rfl

theorem compare (o : Nat) (ho : o < 6) (a b : Nat) (ha : a < 12) (hb : b < 12) (qa qb : Bool) (ev : Value) (w : World) (hv : w.cell? ⟨1, 0, none⟩ = some ev) (hev : ev = .nilIface ∨ ∃ te pe, ev = .iface te pe) :
    Calls Ybaf.prog 11 #[.string (oxt o), .agg #[.string (txt a), .bool qa], .agg #[.string (txt b), .bool qb]] w fun e w' => e = .returned (.bool (ans o (way a b qa qb))) ∧ Kp (fun _ => True) w w' := by
  have hcb : Lib.compareBytes (txt a).data.toList (txt b).data.toList = tway (tx a) (tx b) := by
    have := cb ⟨a, ha⟩ ⟨b, hb⟩
    simpa [txt] using this
  refine (compare_core o ho (txt a) (txt b) qa qb _ _ _ _ _ w hcb (fun w' hk => integer a qa ha ev w' (cell_kp hk hv trivial) hev) (fun w' hk => integer b qb hb ev w' (cell_kp hk hv trivial) hev)).mono fun e w' ⟨h1, h2⟩ => ⟨?_, h2⟩
  rw [h1, way_eq]
  cases hia : (isI a && !qa) <;> cases hib : (isI b && !qb) <;> simp

set_option maxRecDepth 100000 in
set_option maxHeartbeats 8000000 in
theorem acmp_int (o : Nat) (ho : o < 6) (s t : ByteArray) (qa qb : Bool) (na nb : Int) (w : World) :
    Calls Ybaf.prog 7 #[.string (oxt o), .agg #[.string s, .bool qa, .bool true, .int .i64 na], .agg #[.string t, .bool qb, .bool true, .int .i64 nb]] w fun e w' => e = .returned (.bool (ans o (cmpi na nb))) ∧ Kp (fun _ => True) w w' := by
  have hcase : (na < nb ∧ Hid (cmpi na nb = -1)) ∨ ((¬ na < nb ∧ nb < na) ∧ Hid (cmpi na nb = 1)) ∨ ((¬ na < nb ∧ ¬ nb < na) ∧ Hid (cmpi na nb = 0)) := by
    unfold cmpi Hid
    by_cases h1 : na < nb
    · exact .inl ⟨h1, by rw [if_pos h1]⟩
    · by_cases h2 : nb < na
      · exact .inr (.inl ⟨⟨h1, h2⟩, by rw [if_neg h1, if_pos h2]⟩)
      · exact .inr (.inr ⟨⟨h1, h2⟩, by rw [if_neg h1, if_neg h2]⟩)
  rcases six ho with rfl | rfl | rfl | rfl | rfl | rfl
  all_goals
    rcases hcase with ⟨h1, HI⟩ | ⟨⟨h1, h2⟩, HI⟩ | ⟨⟨h1, h2⟩, HI⟩
    all_goals
      first | rw [oxt0] | rw [oxt1] | rw [oxt2] | rw [oxt3] | rw [oxt4] | rw [oxt5]
      go_enter Ybaf.func7, Ybaf.ntmps7
      go_wp2
      go_ret
      exact ⟨by rw [HI.out]; rfl, ((Kp.refl _ _).alloc _).alloc _⟩

set_option maxRecDepth 100000 in
set_option maxHeartbeats 8000000 in
theorem acmp_text (o : Nat) (ho : o < 6) (s t : ByteArray) (qa qb ia ib : Bool) (na nb : Int) (hi : (ia && ib) = false) (w : World) :
    Calls Ybaf.prog 7 #[.string (oxt o), .agg #[.string s, .bool qa, .bool ia, .int .i64 na], .agg #[.string t, .bool qb, .bool ib, .int .i64 nb]] w fun e w' => e = .returned (.bool (ans o (tway s.toList t.toList))) ∧ Kp (fun _ => True) w w' := by
  have hcase : (Op.bytesLess s.toList t.toList = true ∧ Hid (tway s.toList t.toList = -1)) ∨ ((Op.bytesLess s.toList t.toList = false ∧ (s.toList == t.toList) = true) ∧ Hid (tway s.toList t.toList = 0)) ∨ ((Op.bytesLess s.toList t.toList = false ∧ (s.toList == t.toList) = false) ∧ Hid (tway s.toList t.toList = 1)) := by
    unfold tway Hid
    cases h1 : Op.bytesLess s.toList t.toList <;> cases h2 : (s.toList == t.toList) <;> simp
  have hia : (ia = false) ∨ (ia = true ∧ ib = false) := by cases ia <;> cases ib <;> simp_all
  clear hi
  rcases hia with rfl | ⟨rfl, rfl⟩
  all_goals
    rcases six ho with rfl | rfl | rfl | rfl | rfl | rfl
    all_goals
      rcases hcase with ⟨h1, HI⟩ | ⟨⟨h1, h2⟩, HI⟩ | ⟨⟨h1, h2⟩, HI⟩
      all_goals
        first | rw [oxt0] | rw [oxt1] | rw [oxt2] | rw [oxt3] | rw [oxt4] | rw [oxt5]
        go_enter Ybaf.func7, Ybaf.ntmps7
        go_wp2
        go_ret
        exact ⟨by rw [HI.out]; rfl, ((Kp.refl _ _).alloc _).alloc _⟩

theorem acmp (o : Nat) (ho : o < 6) (a b : Nat) (qa qb : Bool) (w : World) :
    Calls Ybaf.prog 7 #[.string (oxt o), rec a qa, rec b qb] w fun e w' => e = .returned (.bool (ans o (way a b qa qb))) ∧ Kp (fun _ => True) w w' := by
  rw [way_eq]
  unfold rec
  by_cases h : ((isI a && !qa) && (isI b && !qb)) = true
  · have h1 : (isI a && !qa) = true := by revert h; cases (isI a && !qa) <;> simp
    have h2 : (isI b && !qb) = true := by revert h; cases (isI b && !qb) <;> simp
    have q1 : qa = false := by revert h1; cases isI a <;> cases qa <;> simp
    have q2 : qb = false := by revert h2; cases isI b <;> cases qb <;> simp
    rw [if_pos h, h1, h2, q1, q2]
    exact acmp_int o ho _ _ _ _ _ _ w
  · rw [if_neg h]
    have e1 : ∀ k, (txt k).toList = tx k := fun k => by rw [ByteArray.toList_eq]; simp [txt]
    have hf : ((isI a && !qa) && (isI b && !qb)) = false := by revert h; cases ((isI a && !qa) && (isI b && !qb)) <;> simp
    rw [← e1 a, ← e1 b]
    exact acmp_text o ho _ _ _ _ _ _ _ _ hf w

set_option maxRecDepth 100000 in
theorem boolean (b : Bool) (w : World) : Calls Ybaf.prog 10 #[.bool b] w fun e w' => e = .returned (.agg #[.string (txt (if b = true then 1 else 0)), .bool false]) ∧ Kp (fun _ => True) w w' := by
  cases b
  all_goals
    go_enter Ybaf.func10, Ybaf.ntmps10
    go_wp2
    refine bodyPost_ret (v := .agg #[.string (txt _), .bool false]) (by simp [results, Ybaf.results10, go_sem]; rfl) rfl ⟨rfl, ?_⟩
    repeat (first | exact Kp.refl _ _ | apply Kp.alloc | apply Kp.drew)
end Go.Proofs.YbulkawlyFmt.Cm
