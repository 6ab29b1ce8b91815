import Derived.Test.Qxb6605818aFmtDef
import Derived.Test.Qxb6605818aFmtShelf
import Derived.Stop.CallBack
import Derived.Stop.IfaceNil
import Derived.Stop.FmtTextLaws
import GoSem.ClaimData
import Derived.RowKitTokens
namespace Go.Proofs.Qxb6605818aFmt
open Go.RowKit Go.Extern.Stop Go.Stop Go.Extern
set_option linter.unusedVariables false

def litCycle : ByteArray := ⟨#[112, 97, 114, 116, 105, 97, 108, 32, 111, 114, 100, 101, 114, 32, 37, 113, 58, 32, 112, 114, 101, 99, 101, 100, 101, 110, 99, 101, 115, 32, 102, 111, 114, 109, 32, 97, 32, 99, 121, 99, 108, 101, 58, 32, 37, 115]⟩

theorem call35 (args : Array Value) (w : World) : (callFunc 35 args).run Tryf.prog w = ((FmtStop.errorf #[9, 94] #[80] args).run Tryf.prog w).andThen fun v w' => .ok (.value v) w' :=
  run_callFunc_extern Tryf.func35 (by kernel_rfl) (by kernel_rfl) (by kernel_rfl) (by kernel_rfl) args w
theorem ptrE (w : World) : (FmtStop.ptrTo "errors.errorString").run Tryf.prog w = .ok 105 w := by kernel_rfl
theorem elemE (w : World) : (elemOf 105).run Tryf.prog w = .ok 107 w := by kernel_rfl
theorem isErrE (w : World) : (FmtDoors.textMethod 105 "Error").run Tryf.prog w = .ok true w := by kernel_rfl
theorem fguard (name : String) (w : World) : (FmtStop.guard name).run Tryf.prog w = .ok () w := by kernel_rfl
theorem fmtC : FmtStop.printed? ⟨#[112, 97, 114, 116, 105, 97, 108, 32, 111, 114, 100, 101, 114, 32, 37, 113, 58, 32, 112, 114, 101, 99, 101, 100, 101, 110, 99, 101, 115, 32, 102, 111, 114, 109, 32, 97, 32, 99, 121, 99, 108, 101, 58, 32, 37, 115]⟩ 2 = some [(0, 113, false), (1, 115, false)] := by kernel_rfl
theorem fmtCr (w : World) : (FmtDoors.printed ⟨#[112, 97, 114, 116, 105, 97, 108, 32, 111, 114, 100, 101, 114, 32, 37, 113, 58, 32, 112, 114, 101, 99, 101, 100, 101, 110, 99, 101, 115, 32, 102, 111, 114, 109, 32, 97, 32, 99, 121, 99, 108, 101, 58, 32, 37, 115]⟩ 2).run Tryf.prog w = .ok [(0, 113, false), (1, 115, false)] w := by kernel_rfl
def shape9 : List UInt8 := [12, 6, 0, 0, 0, 0, 0, 0, 0, 115, 116, 114, 105, 110, 103]
theorem act9_113 (name : String) (b : Bool) (x : Value) (w : World) : (FmtCalls.act name b 113 false (.iface 9 x)).run Tryf.prog w = .ok (.closed b) w := by cases b <;> kernel_rfl
theorem act9_115 (name : String) (b : Bool) (x : Value) (w : World) : (FmtCalls.act name b 115 false (.iface 9 x)).run Tryf.prog w = .ok (.closed b) w := by cases b <;> kernel_rfl
theorem op9_113 (name : String) (b : Bool) (x : ByteArray) (w : World) : (FmtStop.operand name b 113 false (.iface 9 (.string x))).run Tryf.prog w = .ok (shape9, FmtStop.pack x.data.toList) w := by cases b <;> kernel_rfl
theorem op9_115 (name : String) (b : Bool) (x : ByteArray) (w : World) : (FmtStop.operand name b 115 false (.iface 9 (.string x))).run Tryf.prog w = .ok (shape9, FmtStop.pack x.data.toList) w := by cases b <;> kernel_rfl
theorem str9 (w : World) : (typeStr 9).run Tryf.prog w = .ok "string" w := by kernel_rfl

attribute [local go_sem] ptrE elemE isErrE call35 fguard fmtC fmtCr act9_113 act9_115 op9_113 op9_115 str9

set_option maxHeartbeats 1000000 in
theorem errorf_cycle (F : Interp) (a b : ByteArray) (blk : Nat) (w : World) (hF : F.answers w.tape)
    (hc0 : w.cell? ⟨blk, 0, none⟩ = some (.iface 9 (.string a))) (hc1 : w.cell? ⟨blk, 1, none⟩ = some (.iface 9 (.string b))) :
    Calls Tryf.prog 32 #[.string litCycle, .slice (some ⟨blk, 0, none⟩) 2 2] w fun e w' => (∃ v, e = .returned v) ∧ Below w.heap.size w w' := by
  have hF' := hF
  unfold Interp.answers at hF'
  unfold litCycle
  go_enter Tryf.func32, Tryf.ntmps32
  go_wp2
  go_ret
  exact ⟨⟨_, rfl⟩, ((Below.refl _ _).alloc (Nat.le_refl _) _).drew⟩
end Go.Proofs.Qxb6605818aFmt
