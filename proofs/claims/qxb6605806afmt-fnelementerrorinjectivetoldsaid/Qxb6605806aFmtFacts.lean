/-
  THE CLOSED FACTS FOR A WALK OVER fmt.Sprintf's STOP in this dump (typed by hand after the worked families' fact texts).
-/
import Derived.Test.Qxb6605806aFmtRows
import Derived.WalkKit
import Derived.WalkSpells
import Derived.Stop.CallBack
import Derived.Stop.IfaceNil
import GoSem.ClaimData
namespace Go.Proofs.Qxb6605806aFmt
open Go.Extern.Stop Go.Stop Go.Extern

theorem call8 (args : Array Value) (w : World) : (callFunc 8 args).run Tryf.prog w = (FmtCalls.sprintf #[9, 50] #[9] args).run Tryf.prog w :=
  run_callFunc_next Tryf.func8 (by kernel_rfl) (by kernel_rfl) (by kernel_rfl) args w
theorem guardOk (name : String) (w : World) : (FmtStop.guard name).run Tryf.prog w = .ok () w := by kernel_rfl
theorem nextTurns : Extern.next FmtCalls.turnsRow = some (FmtCalls.begun #[] #[]) := by kernel_rfl
theorem fmt0 : FmtStop.printed? ⟨#[91, 37, 100, 93, 58, 32, 37, 118]⟩ 2 = some [(0, 100, false), (1, 118, false)] := by kernel_rfl
def shape3 : List UInt8 := [5, 3, 0, 0, 0, 0, 0, 0, 0, 105, 110, 116]
theorem act3_100 (name : String) (x : Value) (w : World) : (FmtCalls.act name false 100 false (.iface 3 x)).run Tryf.prog w = .ok (.closed false) w := by kernel_rfl
theorem op3_100 (name : String) (x : Int) (w : World) : (FmtStop.operand name false 100 false (.iface 3 (.int .i64 x))).run Tryf.prog w = .ok (shape3, Go.Extern.Stop.digits 8 (x % 2 ^ 64).toNat) w := by kernel_rfl
theorem act31_118 (name : String) (x : Value) (w : World) : (FmtCalls.act name false 118 false (.iface 31 x)).run Tryf.prog w = .ok (.closed false) w := by kernel_rfl
/-- The name of the type 31, as bytes. -/
def name31 : List UInt8 := [42, 101, 114, 114, 111, 114, 115, 46, 101, 114, 114, 111, 114, 83, 116, 114, 105, 110, 103]
def plain31 : List UInt8 := 14 :: FmtStop.pack name31
theorem str31 (w : World) : ∃ nm : String, (typeStr 31).run Tryf.prog w = .ok nm w ∧ nm.toUTF8.data.toList = name31 := ⟨_, rfl, by decide +kernel⟩
theorem opPlain31_118 (name : String) (a : Addr) (s : ByteArray) (w : World) (hc : w.cell? a = some (.string s)) :
    (FmtStop.operand name false 118 false (.iface 31 (.pointer (some a)))).run Tryf.prog w = .ok (plain31, s.data.toList) w := by
  obtain ⟨nm, h1, h2⟩ := str31 w
  have d2 : Tryf.t31.desc = .pointer 33 := rfl
  have d3 : Tryf.t33.desc = .named "errors.errorString" 32 := rfl
  simp [FmtStop.operand, h1, d2, d3, run_load, hc, plain31, ← h2]

end Go.Proofs.Qxb6605806aFmt
