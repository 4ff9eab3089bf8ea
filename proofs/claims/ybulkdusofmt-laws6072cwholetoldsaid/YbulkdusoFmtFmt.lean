/-
  fmt.Sprintf (function 15, a stop) at the one format of this road.
-/
import Derived.Test.YbulkdusoFmtChecked
import Derived.WalkKit
import Derived.WalkSpells
import Derived.Stop.CallBack
import Derived.Stop.IfaceNil
import Derived.Stop.FmtLaws
import GoSem.ClaimData
namespace Go.Proofs.YbulkdusoFmt
open Go.Extern.Stop Go.Stop Go.Extern Go.RowKit

def fmtB : ByteArray := ⟨#[116, 97, 103, 32, 110, 117, 109, 98, 101, 114, 32, 37, 100, 32, 105, 110, 32, 116, 104, 101, 32, 104, 105, 103, 104, 45, 116, 97, 103, 45, 110, 117, 109, 98, 101, 114, 32, 102, 111, 114, 109]⟩

theorem call15 (args : Array Value) (w : World) : (callFunc 15 args).run Ybaf.prog w = ((FmtStop.sprintf #[9, 107] #[9] args).run Ybaf.prog w).andThen fun v w' => .ok (.value v) w' :=
  run_callFunc_extern Ybaf.func15 (by kernel_rfl) (by kernel_rfl) (by kernel_rfl) (by kernel_rfl) args w
theorem fguard (name : String) (w : World) : (FmtStop.guard name).run Ybaf.prog w = .ok () w := by kernel_rfl
theorem fmt1 : FmtStop.printed? fmtB 1 = some [(0, 100, false)] := by kernel_rfl
def shape37 : List UInt8 := [9, 6, 0, 0, 0, 0, 0, 0, 0, 117, 105, 110, 116, 54, 52]
theorem op37 (name : String) (x : Int) (w : World) : (FmtStop.operand name false 100 false (.iface 37 (.int .u64 x))).run Ybaf.prog w = .ok (shape37, Go.Extern.Stop.digits 8 (x % 2 ^ 64).toNat) w := by kernel_rfl

theorem sprintf_run (m : Int) (b : Nat) (w : World) (hc : w.cell? ⟨b, 0, none⟩ = some (.iface 37 (.int .u64 m))) :
    ∃ v, (callFunc 15 #[.string fmtB, .slice (some ⟨b, 0, none⟩) 1 1]).run Ybaf.prog w = .ok (.value (.string v)) w.drew := by
  rw [call15]
  simp [fguard, fmt1, op37, go_sem, hc]
end Go.Proofs.YbulkdusoFmt
