/-
  The closed facts for a walk over fmt.Sprintf's stopped front in this dump, after the guide's NoteopFmt and HostportFmt.
-/
import Derived.Test.Qxb6615892aFmtProg
import Derived.Stop.CallBack
import Derived.Stop.IfaceNil
import GoSem.ClaimData
namespace Go.Proofs.Qxb6615892aFmt
open Go.Extern.Stop Go.Stop Go.Extern

theorem call8 (args : Array Value) (w : World) : (callFunc 8 args).run Tryf.prog w = (FmtCalls.sprintf #[9, 50] #[9] args).run Tryf.prog w :=
  run_callFunc_next Tryf.func8 (by kernel_rfl) (by kernel_rfl) (by kernel_rfl) args w
theorem guard (name : String) (w : World) : (FmtStop.guard name).run Tryf.prog w = .ok () w := by kernel_rfl
theorem nextTurns : Extern.next FmtCalls.turnsRow = some (FmtCalls.begun #[] #[]) := by kernel_rfl

theorem fmt2 : FmtStop.printed? ⟨#[37, 115, 58, 32, 37, 118]⟩ 2 = some [(0, 115, false), (1, 118, false)] := by kernel_rfl
theorem fmt2r (w : World) : (FmtDoors.printed ⟨#[37, 115, 58, 32, 37, 118]⟩ 2).run Tryf.prog w = .ok [(0, 115, false), (1, 118, false)] w := by kernel_rfl
theorem fmt3 : FmtStop.printed? ⟨#[37, 115, 32, 108, 105, 110, 101, 32, 37, 100, 58, 32, 37, 118]⟩ 3 = some [(0, 115, false), (1, 100, false), (2, 118, false)] := by kernel_rfl
theorem fmt3r (w : World) : (FmtDoors.printed ⟨#[37, 115, 32, 108, 105, 110, 101, 32, 37, 100, 58, 32, 37, 118]⟩ 3).run Tryf.prog w = .ok [(0, 115, false), (1, 100, false), (2, 118, false)] w := by kernel_rfl

def shape3 : List UInt8 := [5, 3, 0, 0, 0, 0, 0, 0, 0, 105, 110, 116]
theorem act3_100 (name : String) (x : Value) (w : World) : (FmtCalls.act name false 100 false (.iface 3 x)).run Tryf.prog w = .ok (.closed false) w := by kernel_rfl
theorem op3_100 (name : String) (x : Int) (w : World) : (FmtStop.operand name false 100 false (.iface 3 (.int .i64 x))).run Tryf.prog w = .ok (shape3, Go.Extern.Stop.digits 8 (x % 2 ^ 64).toNat) w := by kernel_rfl
theorem str3 (w : World) : (typeStr 3).run Tryf.prog w = .ok "int" w := by kernel_rfl
def shape9 : List UInt8 := [12, 6, 0, 0, 0, 0, 0, 0, 0, 115, 116, 114, 105, 110, 103]
theorem act9_115 (name : String) (x : Value) (w : World) : (FmtCalls.act name false 115 false (.iface 9 x)).run Tryf.prog w = .ok (.closed false) w := by kernel_rfl
theorem op9_115 (name : String) (x : ByteArray) (w : World) : (FmtStop.operand name false 115 false (.iface 9 (.string x))).run Tryf.prog w = .ok (shape9, FmtStop.pack x.data.toList) w := by kernel_rfl
theorem str9 (w : World) : (typeStr 9).run Tryf.prog w = .ok "string" w := by kernel_rfl
theorem str31 (w : World) : (typeStr 31).run Tryf.prog w = .ok "*errors.errorString" w := by kernel_rfl
def plain31 : List UInt8 := 14 :: FmtStop.pack "*errors.errorString".toUTF8.data.toList
theorem opPlain31_118 (name : String) (a : Addr) (s : ByteArray) (w : World) (hc : w.cell? a = some (.string s)) :
    (FmtStop.operand name false 118 false (.iface 31 (.pointer (some a)))).run Tryf.prog w = .ok (plain31, s.data.toList) w := by
  have h1 : (typeStr 31).run Tryf.prog w = .ok "*errors.errorString" w := by kernel_rfl
  have d2 : Tryf.t31.desc = .pointer 33 := rfl
  have d3 : Tryf.t33.desc = .named "errors.errorString" 32 := rfl
  simp [FmtStop.operand, h1, d2, d3, run_load, hc, plain31]
theorem actPlain31_118 (name : String) (x : Value) (w : World) : (FmtCalls.act name false 118 false (.iface 31 x)).run Tryf.prog w = .ok (.closed false) w := by kernel_rfl
end Go.Proofs.Qxb6615892aFmt
