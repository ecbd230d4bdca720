import Derived.Test.YbulkiroFmtRows
import Derived.Stop.CallBack
import Derived.Stop.IfaceNil
import GoSem.ClaimData
import Derived.WalkKit
import Derived.WalkSpells
import Derived.WalkLawsBesides
namespace Go.Proofs.YbulkiroFmt
open Go.Extern.Stop Go.Stop Go.Extern Go.RowKit

theorem call15 (args : Array Value) (w : World) : (callFunc 15 args).run Ybaf.prog w = ((FmtStop.errorf #[9, 59] #[26] args).run Ybaf.prog w).andThen fun v w' => .ok (.value v) w' :=
  run_callFunc_extern Ybaf.func15 (by kernel_rfl) (by kernel_rfl) (by kernel_rfl) (by kernel_rfl) args w
theorem guard15 (name : String) (w : World) : (FmtStop.guard name).run Ybaf.prog w = .ok () w := by kernel_rfl

/-- the format of NewHosts' error -/
def fmtB : ByteArray := ⟨#[99, 97, 117, 115, 101, 108, 105, 110, 101, 58, 32, 104, 111, 115, 116, 32, 37, 113, 32, 102, 111, 108, 108, 111, 119, 115, 32, 37, 113, 58, 32, 104, 111, 115, 116, 115, 32, 97, 114, 101, 32, 105, 110, 32, 105, 110, 99, 114, 101, 97, 115, 105, 110, 103, 32, 111, 114, 100, 101, 114, 44, 32, 101, 97, 99, 104, 32, 111, 110, 99, 101]⟩
theorem fmt0 : FmtStop.printed? fmtB 2 = some [(0, 113, false), (1, 113, false)] := by kernel_rfl
theorem fmt0r (w : World) : (FmtDoors.printed fmtB 2).run Ybaf.prog w = .ok [(0, 113, false), (1, 113, false)] w := by kernel_rfl
def shape9 : List UInt8 := [12, 6, 0, 0, 0, 0, 0, 0, 0, 115, 116, 114, 105, 110, 103]
theorem op9_113 (name : String) (x : ByteArray) (w : World) : (FmtStop.operand name false 113 false (.iface 9 (.string x))).run Ybaf.prog w = .ok (shape9, FmtStop.pack x.data.toList) w := by kernel_rfl
theorem op9_113w (name : String) (x : ByteArray) (w : World) : (FmtStop.operand name true 113 false (.iface 9 (.string x))).run Ybaf.prog w = .ok (shape9, FmtStop.pack x.data.toList) w := by kernel_rfl
theorem ptr66 (w : World) : (FmtStop.ptrTo "errors.errorString").run Ybaf.prog w = .ok 66 w := by kernel_rfl
theorem elem66 (w : World) : (elemOf 66).run Ybaf.prog w = .ok 68 w := by kernel_rfl

set_option maxHeartbeats 400000 in
theorem errorf_any (b : Nat) (x y : ByteArray) (w : World) (c0 : w.cell? ⟨b, 0, none⟩ = some (.iface 9 (.string x))) (c1 : w.cell? ⟨b, 1, none⟩ = some (.iface 9 (.string y))) :
    Calls Ybaf.prog 9 #[.string fmtB, .slice (some ⟨b, 0, none⟩) 2 2] w fun e w' => (∃ p, e = .returned (.iface 66 (.pointer (some p)))) ∧ Below w.heap.size w w' := by
  have k1 := call15
  have k2 := guard15
  have k3 := fmt0r
  have k4 := op9_113
  have k5 := op9_113w
  have k6 := ptr66
  have k7 := elem66
  go_enter Ybaf.func9, Ybaf.ntmps9
  go_wp2
  go_ret
  exact ⟨⟨_, rfl⟩, ((Below.refl _ _).alloc (Nat.le_refl _) _).drew⟩
end Go.Proofs.YbulkiroFmt
