import Derived.Test.YbulkawlyFmtRows
import Derived.Test.YbulkawlyFmtLaws
import Derived.Test.YbulkawlyFmtPlain
import Derived.ProofKit
import Derived.WalkSpells
namespace Go.Proofs.YbulkawlyFmt.Lf
open Go.ChangeShapes Go.WideShapes Go.ChangeAt Go.RowKit Go.Proofs.YbulkawlyFmt.Lw Go.Proofs.YbulkawlyFmt.Pl

set_option maxRecDepth 100000 in
theorem aop (k : Int) (o : Nat) (ho : o < 6) (hk : k % 6 = (o : Int)) (hk0 : 0 ≤ k) (w : World) :
    Calls Ybaf.prog 4 #[.int .u8 k] w fun e w' => e = .returned (.string (oxt o)) ∧ w' = w := by
  have hc : o = 0 ∨ o = 1 ∨ o = 2 ∨ o = 3 ∨ o = 4 ∨ o = 5 := by omega
  rcases hc with rfl | rfl | rfl | rfl | rfl | rfl
  all_goals
    go_enter Ybaf.func4, Ybaf.ntmps4
    go_wp2
    go_ret
    exact ⟨rfl, rfl⟩

/-- The record of an entry. -/
def rec (a : Nat) (q : Bool) : Value := .agg #[.string (txt a), .bool q, .bool (isI a && !q), .int .i64 (if q then 0 else num a)]

set_option maxRecDepth 100000 in
set_option maxHeartbeats 4000000 in
theorem entry (k : Int) (a : Nat) (q : Bool) (ha : a < 12) (hk : k % 12 = (a : Int)) (hk0 : 0 ≤ k) (w : World) :
    Calls Ybaf.prog 5 #[.int .u8 k, .bool q] w fun e w' => e = .returned (rec a q) ∧ Kp (fun _ => True) w w' := by
  have hc : a = 0 ∨ a = 1 ∨ a = 2 ∨ a = 3 ∨ a = 4 ∨ a = 5 ∨ a = 6 ∨ a = 7 ∨ a = 8 ∨ a = 9 ∨ a = 10 ∨ a = 11 := by omega
  cases q
  all_goals
    rcases hc with rfl | rfl | rfl | rfl | rfl | rfl | rfl | rfl | rfl | rfl | rfl | rfl
    all_goals
      go_enter Ybaf.func5, Ybaf.ntmps5
      go_wp2
      refine bodyPost_ret (v := rec _ _) (by simp [results, Ybaf.results5, go_sem, rec]; first | done | decide | rfl) rfl ⟨rfl, ?_⟩
      repeat (first | exact Kp.refl _ _ | apply Kp.alloc | apply Kp.drew)

end Go.Proofs.YbulkawlyFmt.Lf
