/-
  fmt.Errorf with one int operand, at this program: it makes an error that is not nil, whatever its text.
-/
import Derived.Test.Qxb6608706aFmtRows
import Derived.WalkKit
import Derived.WalkSpells
import Derived.WalkLawsBesides
import Derived.Stop.CallBack
import Derived.Stop.IfaceNil
import GoSem.ClaimData
namespace Go.Proofs.Qxb6608706aFmt
open Go.RowKit Go.Extern.Stop Go.Stop Go.Extern

theorem Tryf.call30 (args : Array Value) (w : World) : (callFunc 30 args).run Tryf.prog w = ((FmtStop.errorf #[9, 58] #[25] args).run Tryf.prog w).andThen fun v w' => .ok (.value v) w' :=
  run_callFunc_extern Tryf.func30 (by kernel_rfl) (by kernel_rfl) (by kernel_rfl) (by kernel_rfl) args w
theorem Tryf.guard (name : String) (w : World) : (FmtStop.guard name).run Tryf.prog w = .ok () w := by kernel_rfl
def Tryf.shape3 : List UInt8 := [5, 3, 0, 0, 0, 0, 0, 0, 0, 105, 110, 116]
theorem Tryf.op3_100w (name : String) (x : Int) (w : World) : (FmtStop.operand name true 100 false (.iface 3 (.int .i64 x))).run Tryf.prog w = .ok (Tryf.shape3, Go.Extern.Stop.digits 8 (x % 2 ^ 64).toNat) w := by kernel_rfl
theorem Tryf.ptr68 (w : World) : (FmtStop.ptrTo "errors.errorString").run Tryf.prog w = .ok 68 w := by kernel_rfl
theorem Tryf.elem68 (w : World) : (elemOf 68).run Tryf.prog w = .ok 70 w := by kernel_rfl

attribute [local go_sem] Tryf.call30 Tryf.guard Tryf.op3_100w Tryf.ptr68 Tryf.elem68

set_option maxHeartbeats 400000 in
set_option maxRecDepth 100000 in
theorem errorf_any (F : Interp) (S : ByteArray) (n : Int) (b : Nat) (w : World) (hF : F.answers w.tape)
    (hpr : ∀ w, (FmtDoors.printed S 1).run Tryf.prog w = .ok [(0, 100, false)] w) (hc : w.cell? ⟨b, 0, none⟩ = some (.iface 3 (.int .i64 n))) :
    Calls Tryf.prog 24 #[.string S, .slice (some ⟨b, 0, none⟩) 1 1] w fun e w' => (∃ a, e = .returned (.iface 68 (.pointer (some a)))) ∧ Below w.heap.size w w' := by
  have hF' := answers_open hF
  go_enter Tryf.func24, Tryf.ntmps24
  go_wp2
  go_ret
  exact ⟨⟨_, rfl⟩, ((Below.refl _ _).alloc (Nat.le_refl _) _).drew⟩
end Go.Proofs.Qxb6608706aFmt
