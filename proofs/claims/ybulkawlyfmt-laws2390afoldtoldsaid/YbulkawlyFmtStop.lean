/-
  What the walk over fmt's stopped front needs at this dump: closed facts by the kernel (after the guide's Fmt texts), and the contracts of errors.New and fmt.Errorf.
-/
import Derived.Test.YbulkawlyFmtRows
import Derived.Test.YbulkawlyFmtLaws
import Derived.ProofKit
import Derived.WalkSpells
import Derived.Stop.CallBack
import Derived.Stop.IfaceNil
import GoSem.ClaimData
namespace Go.Proofs.YbulkawlyFmt.St
open Go.RowKit Go.Extern.Stop Go.Stop Go.Extern Go.Proofs.YbulkawlyFmt.Lw

theorem call27 (args : Array Value) (w : World) : (callFunc 27 args).run Ybaf.prog w = ((FmtStop.errorf #[9, 58] #[38] args).run Ybaf.prog w).andThen fun v w' => .ok (.value v) w' :=
  run_callFunc_extern Ybaf.func27 (by kernel_rfl) (by kernel_rfl) (by kernel_rfl) (by kernel_rfl) args w
theorem guard (name : String) (w : World) : (FmtStop.guard name).run Ybaf.prog w = .ok () w := by kernel_rfl
theorem fmt0 : FmtStop.printed? ⟨#[37, 113, 32, 119, 104, 101, 114, 101, 32, 97, 110, 32, 111, 112, 101, 114, 97, 110, 100, 32, 115, 104, 111, 117, 108, 100, 32, 98, 101]⟩ 1 = some [(0, 113, false)] := by kernel_rfl
theorem fmt0r (w : World) : (FmtDoors.printed ⟨#[37, 113, 32, 119, 104, 101, 114, 101, 32, 97, 110, 32, 111, 112, 101, 114, 97, 110, 100, 32, 115, 104, 111, 117, 108, 100, 32, 98, 101]⟩ 1).run Ybaf.prog w = .ok [(0, 113, false)] w := by kernel_rfl
def shape9 : List UInt8 := [12, 6, 0, 0, 0, 0, 0, 0, 0, 115, 116, 114, 105, 110, 103]
theorem op9 (name : String) (x : ByteArray) (w : World) : (FmtStop.operand name true 113 false (.iface 9 (.string x))).run Ybaf.prog w = .ok (shape9, FmtStop.pack x.data.toList) w := by kernel_rfl
theorem op9n (name : String) (x : ByteArray) (w : World) : (FmtStop.operand name false 113 false (.iface 9 (.string x))).run Ybaf.prog w = .ok (shape9, FmtStop.pack x.data.toList) w := by kernel_rfl
theorem strict9 (name : String) (x : ByteArray) (w : World) : (FmtStop.strict name (.iface 9 (.string x))).run Ybaf.prog w = .ok (shape9, FmtStop.pack x.data.toList) w := by kernel_rfl
theorem ptr69 (w : World) : (FmtStop.ptrTo "errors.errorString").run Ybaf.prog w = .ok 69 w := by kernel_rfl
theorem elem69 (w : World) : (elemOf 69).run Ybaf.prog w = .ok 71 w := by kernel_rfl
attribute [local go_sem] call27 guard fmt0 fmt0r op9 op9n strict9 ptr69 elem69

theorem errNew (s : ByteArray) (w : World) : Calls Ybaf.prog 28 #[.string s] w fun e w' => (∃ t x, e = .returned (.iface t x)) ∧ Kp (fun _ => True) w w' := by
  go_enter Ybaf.func28, Ybaf.ntmps28
  go_wp2
  go_ret
  exact ⟨⟨_, _, rfl⟩, (Kp.refl _ _).alloc _⟩

theorem errorf (F : Interp) (s : ByteArray) (blk : Nat) (w : World) (hF : F.answers w.tape) (hc0 : w.cell? ⟨blk, 0, none⟩ = some (.iface 9 (.string s))) :
    Calls Ybaf.prog 20 #[.string ⟨#[37, 113, 32, 119, 104, 101, 114, 101, 32, 97, 110, 32, 111, 112, 101, 114, 97, 110, 100, 32, 115, 104, 111, 117, 108, 100, 32, 98, 101]⟩, .slice (some ⟨blk, 0, none⟩) 1 1] w fun e w' =>
      (∃ t x, e = .returned (.iface t x)) ∧ Kp (fun _ => True) w w' := by
  have hF' : ∀ i name reading k range, w.tape i (.extern (word name reading k) range) = F name reading k := hF
  go_enter Ybaf.func20, Ybaf.ntmps20
  go_wp2
  go_ret
  exact ⟨⟨_, _, rfl⟩, ((Kp.refl _ _).alloc _).drew⟩
end Go.Proofs.YbulkawlyFmt.St
