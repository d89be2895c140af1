/-
  The closed facts for the one call of fmt on the road, after the guide's own texts for such facts; 'fmt.Errorf' never hands back nil.
-/
import Derived.Test.Qxb6605652aFmtRows
import Derived.Stop.CallBack
import Derived.Stop.IfaceNil
import Derived.WalkKit
import Derived.Below
namespace Go.Proofs.Qxb6605652aFmt
open Go.RowKit Go.Extern.Stop Go.Stop Go.Extern

theorem fmt_call16 (args : Array Value) (w : World) : (callFunc 16 args).run Tryf.prog w = ((FmtStop.errorf #[9, 47] #[26] args).run Tryf.prog w).andThen fun v w' => .ok (.value v) w' :=
  run_callFunc_extern Tryf.func16 (by kernel_rfl) (by kernel_rfl) (by kernel_rfl) (by kernel_rfl) args w
theorem fmt_guard (name : String) (w : World) : (FmtStop.guard name).run Tryf.prog w = .ok () w := by kernel_rfl
theorem fmt_fmt0 : FmtStop.printed? ⟨#[37, 115, 32, 109, 117, 115, 116, 32, 98, 101, 32, 97, 32, 100, 117, 114, 97, 116, 105, 111, 110, 32, 111, 102, 32, 97, 116, 32, 108, 101, 97, 115, 116, 32, 49, 115, 44, 32, 115, 117, 99, 104, 32, 97, 115, 32, 37, 115, 44, 32, 110, 111, 116, 32, 37, 113]⟩ 3 = some [(0, 115, false), (1, 115, false), (2, 113, false)] := by kernel_rfl
theorem fmt_fmt0r (w : World) : (FmtDoors.printed ⟨#[37, 115, 32, 109, 117, 115, 116, 32, 98, 101, 32, 97, 32, 100, 117, 114, 97, 116, 105, 111, 110, 32, 111, 102, 32, 97, 116, 32, 108, 101, 97, 115, 116, 32, 49, 115, 44, 32, 115, 117, 99, 104, 32, 97, 115, 32, 37, 115, 44, 32, 110, 111, 116, 32, 37, 113]⟩ 3).run Tryf.prog w = .ok [(0, 115, false), (1, 115, false), (2, 113, false)] w := by kernel_rfl
def fmt_shape9 : List UInt8 := [12, 6, 0, 0, 0, 0, 0, 0, 0, 115, 116, 114, 105, 110, 103]
theorem fmt_op9_115 (name : String) (x : ByteArray) (w : World) : (FmtStop.operand name false 115 false (.iface 9 (.string x))).run Tryf.prog w = .ok (fmt_shape9, FmtStop.pack x.data.toList) w := by kernel_rfl
theorem fmt_op9_113 (name : String) (x : ByteArray) (w : World) : (FmtStop.operand name false 113 false (.iface 9 (.string x))).run Tryf.prog w = .ok (fmt_shape9, FmtStop.pack x.data.toList) w := by kernel_rfl
theorem fmt_op9_115w (name : String) (x : ByteArray) (w : World) : (FmtStop.operand name true 115 false (.iface 9 (.string x))).run Tryf.prog w = .ok (fmt_shape9, FmtStop.pack x.data.toList) w := by kernel_rfl
theorem fmt_op9_113w (name : String) (x : ByteArray) (w : World) : (FmtStop.operand name true 113 false (.iface 9 (.string x))).run Tryf.prog w = .ok (fmt_shape9, FmtStop.pack x.data.toList) w := by kernel_rfl
theorem fmt_ptr51 (w : World) : (FmtStop.ptrTo "errors.errorString").run Tryf.prog w = .ok 51 w := by kernel_rfl
theorem fmt_elem51 (w : World) : (elemOf 51).run Tryf.prog w = .ok 53 w := by kernel_rfl

attribute [local go_sem] fmt_call16 fmt_guard fmt_fmt0 fmt_fmt0r fmt_op9_115 fmt_op9_113 fmt_op9_115w fmt_op9_113w fmt_ptr51 fmt_elem51

set_option maxHeartbeats 1000000 in
theorem errorf_c (F : Interp) (s0 s1 s2 : ByteArray) (b : Nat) (w : World) (hF : F.answers w.tape)
    (c0 : w.cell? ⟨b, 0, none⟩ = some (.iface 9 (.string s0))) (c1 : w.cell? ⟨b, 1, none⟩ = some (.iface 9 (.string s1))) (c2 : w.cell? ⟨b, 2, none⟩ = some (.iface 9 (.string s2))) :
    Calls Tryf.prog 11 #[.string ⟨#[37, 115, 32, 109, 117, 115, 116, 32, 98, 101, 32, 97, 32, 100, 117, 114, 97, 116, 105, 111, 110, 32, 111, 102, 32, 97, 116, 32, 108, 101, 97, 115, 116, 32, 49, 115, 44, 32, 115, 117, 99, 104, 32, 97, 115, 32, 37, 115, 44, 32, 110, 111, 116, 32, 37, 113]⟩, .slice (some ⟨b, 0, none⟩) 3 3] w fun e w' => (∃ a, e = .returned (.iface 51 (.pointer (some a)))) ∧ Below w.heap.size w w' := by
  unfold Interp.answers at hF
  go_enter Tryf.func11, Tryf.ntmps11
  go_wp2
  go_ret
  exact ⟨⟨_, rfl⟩, ((Below.refl _ w).alloc (Nat.le_refl _) _).drew⟩
end Go.Proofs.Qxb6605652aFmt
