import Derived.Test.YbulkawlyFmtAll
import Derived.Deep.LoopGhost
namespace Go.Proofs.YbulkawlyFmt.Fo
open Go.ChangeShapes Go.WideShapes Go.ChangeAt Go.RowKit Go.Proofs.YbulkawlyFmt.Lw Go.Proofs.YbulkawlyFmt Go.Proofs.YbulkawlyFmt.Pl Go.Proofs.YbulkawlyFmt.Ac
open Go.Stop (Interp)

theorem info30' : (Ybaf.prog.info? 30).map (fun i => (i.zero, i.size, i.bytes)) = some (some (.agg #[.bool false, .string ⟨#[]⟩, .bool false]), 3, 32) := by kernel_rfl
theorem cells3' (w : World) (x y z : Value) (t : TypeId) : ∀ j u, [x, y, z][j]? = some u → (w.alloc (.cells #[x, y, z] t)).cell? ((⟨w.heap.size, 0, none⟩ : Addr).add j) = some u := by
  intro j u hj
  rw [Addr.add_lit, cell_of_row _ _ _ _ t (0, 0) (heap_alloc_new w _)]
  simpa using hj
theorem one3' (b : Bool) (s : ByteArray) (c : Bool) : ∀ u ∈ [Value.bool b, .string s, .bool c], u.oneCell' = true := by
  intro u hu; simp at hu; rcases hu with rfl | rfl | rfl <;> rfl
def amp : Tok := ⟨true, ⟨#[38]⟩, false⟩

set_option maxRecDepth 100000 in
set_option maxHeartbeats 8000000 in
theorem law_none_false (F : Interp) (po oo qo : Option Addr) (pc oc qc no nq : Nat) (w : World) (ho : no ≤ 1024) (hq : nq ≤ 1024) (hw : 1 < w.heap.size) (hF : F.answers w.tape) (dangle : Bool) :
    Calls Ybaf.prog 3 #[.slice po 0 pc, .slice oo no oc, .slice qo nq qc, .bool false, .bool dangle] w fun e w' => e = .returned (.bool true) ∧ Below w.heap.size w w' := by
  have b1 : ¬ (1024 : Int) < (no : Int) := by omega
  have b2 : ¬ (1024 : Int) < (nq : Int) := by omega
  obtain ⟨i30, ti, tz0, tz1, tz2⟩ := info_parts info30'
  have HF : Hid (F.answers w.tape) := hF
  clear hF
  have M0 : Hid (MR w w (.slice none 0 0) (.slice none 0 0) [] (fun _ => 0) (fun _ => false) 0) := ⟨World.ownsRow_nil _ _ _ _, World.ownsRow_nil _ _ _ _, Below.refl _ _⟩
  cases dangle
  all_goals
    go_enter Ybaf.func3, Ybaf.ntmps3
    go_wp2_with fail
    go_loopg [11, 12, 13] 0 (fun _ tv vv i wr => tv = .slice none 0 0 ∧ vv = .slice none 0 0 ∧ i = .int .i64 0 ∧ wr = w)
    case atStart => exact ⟨rfl, rfl, rfl, rfl⟩
    case round =>
      obtain ⟨rfl, rfl, rfl, hwr⟩ := hrel
      subst wr
      go_wp2_with fail
      have k0 : Kp (fun _ => True) w (w.alloc (.cells #[.slice none 0 0, .int .i64 0] 36)) := (Kp.refl _ _).alloc _
      refine (comparison_none F w.heap.size 0 none 0 [] _ ⟨heap_alloc_new w _, fun h => absurd h (by simp), fun i hi => absurd hi (by simp), by omega, by simp, Nat.zero_le _⟩ (.inl rfl) (by have h9 := HF.out; rw [← k0.tape] at h9; exact h9) (by simp) (by simp)).mono ?_
      rintro e w7 ⟨⟨s7, b7, t7, x7, rfl⟩, hk7⟩
      have B0 : Below w.heap.size w (w.alloc (.cells #[.slice none 0 0, .int .i64 0] 36)) := k0.below (Nat.le_refl _) (fun _ _ => trivial)
      have B7 : Hid (Below w.heap.size w w7) := B0.trans (hk7.below B0.size (fun z hz => by omega))
      clear hk7 k0 B0
      go_wp2_with fail
      go_ret
      exact ⟨rfl, B7.out.trans (((Kp.refl (fun _ => True) w7).alloc _).below B7.out.size (fun _ _ => trivial))⟩

set_option maxRecDepth 100000 in
set_option maxHeartbeats 8000000 in
theorem law_none_true (F : Interp) (po oo qo : Option Addr) (pc oc qc no nq : Nat) (w : World) (ho : no ≤ 1024) (hq : nq ≤ 1024) (_hw : 1 < w.heap.size) (hF : F.answers w.tape) (dangle : Bool) :
    Calls Ybaf.prog 3 #[.slice po 0 pc, .slice oo no oc, .slice qo nq qc, .bool true, .bool dangle] w fun e w' => e = .returned (.bool true) ∧ Below w.heap.size w w' := by
  have b1 : ¬ (1024 : Int) < (no : Int) := by omega
  have b2 : ¬ (1024 : Int) < (nq : Int) := by omega
  obtain ⟨i30, ti, tz0, tz1, tz2⟩ := info_parts info30'
  have HF : Hid (F.answers w.tape) := hF
  clear hF
  have M0 : Hid (MR w w (.slice none 0 0) (.slice none 0 0) [] (fun _ => 0) (fun _ => false) 0) := ⟨World.ownsRow_nil _ _ _ _, World.ownsRow_nil _ _ _ _, Below.refl _ _⟩
  cases dangle
  all_goals
    go_enter Ybaf.func3, Ybaf.ntmps3
    go_wp2_with fail
    go_loopg [11, 12, 13] 0 (fun _ tv vv i wr => tv = .slice none 0 0 ∧ vv = .slice none 0 0 ∧ i = .int .i64 0 ∧ wr = w)
    case atStart => exact ⟨rfl, rfl, rfl, rfl⟩
    case round =>
      obtain ⟨rfl, rfl, rfl, hwr⟩ := hrel
      subst wr
      go_wp2_with (first
        | (at_builtin; refine wpList_append_lies _ rfl _ _ 24 rfl w.heap.size 30 i30 (.agg #[.bool false, .string ⟨#[]⟩, .bool false]) 3 32 Ybaf.underlying24 ti tz0 tz1 tz2 rfl (by decide) _ 0 (row []) rfl (M0.out.tk.alloc _) ⟨w.heap.size, 0, none⟩ 1 1 [.bool true, .string ⟨#[38]⟩, .bool false] rfl rfl (cells3' _ _ _ _ _) (one3' _ _ _) (by omega) (by unfold maxLen; omega) (by omega) (by simp) (w.heap.size + 1) (by simp) ?_))
      intro g cap w5 hown hgrow hat hlt1
      have M5 : Hid (MR w w5 (.slice (some ⟨g, 0, none⟩) 1 cap) (.slice none 0 0) [amp] (fun _ => 0) (fun _ => false) 0) := mr_tok M0.out amp _ hgrow hown
      clear hown hgrow hat hlt1
      obtain ⟨T, cap', etv, hTl, hTw, hps⟩ := ps_of M5.out (by simp) (by simp)
      simp only [Value.slice.injEq, Option.some.injEq, Addr.mk.injEq, and_true, true_and, List.length_cons, List.length_nil] at etv
      obtain ⟨rfl, rfl⟩ := etv
      have HPS : Hid (Ps (w5.alloc (.cells #[.slice (some ⟨g, 0, none⟩) 1 cap, .int .i64 0] 36)) w5.heap.size g (some ⟨g, 0, none⟩) cap [amp] 0) := hps
      clear hps
      go_wp2_with fail
      have k0 : Kp (fun _ => True) w5 (w5.alloc (.cells #[.slice (some ⟨g, 0, none⟩) 1 cap, .int .i64 0] 36)) := (Kp.refl _ _).alloc _
      refine (comparison_none F w5.heap.size g (some ⟨g, 0, none⟩) cap [amp] _ HPS.out (.inr ⟨by simp, rfl, amp_stp⟩) (by have h9 := HF.out; rw [← M5.out.bel.tape, ← k0.tape] at h9; exact h9) (by simp) (by simp; omega)).mono ?_
      rintro e w7 ⟨⟨s7, b7, t7, x7, rfl⟩, hk7⟩
      have hbs := M5.out.bel.size
      have B0 : Below w.heap.size w (w5.alloc (.cells #[.slice (some ⟨g, 0, none⟩) 1 cap, .int .i64 0] 36)) := M5.out.bel.trans (k0.below hbs (fun _ _ => trivial))
      have B7 : Hid (Below w.heap.size w w7) := B0.trans (hk7.below B0.size (fun z hz => by omega))
      clear hk7 k0 B0
      go_wp2_with fail
      go_ret
      exact ⟨rfl, B7.out.trans (((Kp.refl (fun _ => True) w7).alloc _).below B7.out.size (fun _ _ => trivial))⟩
end Go.Proofs.YbulkawlyFmt.Fo
