/-
  THE CLOSED FACTS FOR A WALK OVER fmt.Sprintf's STOP AT THIS SEAT's TRANSLATION (the stop calls its operands' own String): each by the kernel's own evaluation. After the guide's LevelsFmt text, cut to the formats and operand types that are met.
-/
import Derived.Test.YbulkblqcFmtProg
import Derived.Stop.CallBack
import Derived.Stop.IfaceNil
import GoSem.ClaimData
namespace Go.Proofs
open Go.Extern.Stop Go.Stop Go.Extern

theorem Ybaf.call20 (args : Array Value) (w : World) : (callFunc 20 args).run Ybaf.prog w = (FmtCalls.sprintf #[9, 79] #[9] args).run Ybaf.prog w :=
  run_callFunc_next Ybaf.func20 (by kernel_rfl) (by kernel_rfl) (by kernel_rfl) args w
theorem Ybaf.guard (name : String) (w : World) : (FmtStop.guard name).run Ybaf.prog w = .ok () w := by kernel_rfl
theorem Ybaf.nextTurns : Extern.next FmtCalls.turnsRow = some (FmtCalls.begun #[] #[]) := by kernel_rfl
theorem Ybaf.nextReturned : Extern.next FmtCalls.returnedRow = some (FmtCalls.returned #[] #[]) := by kernel_rfl

/-! What the walk over each literal format gives. -/
theorem Ybaf.fmt_p : FmtStop.printed? ⟨#[112, 97, 121, 108, 111, 97, 100, 32, 116, 121, 112, 101, 32, 37, 100]⟩ 1 = some [(0, 100, false)] := by kernel_rfl
theorem Ybaf.fmt_a : FmtStop.printed? ⟨#[37, 115, 32, 99, 97, 114, 114, 105, 101, 115, 32, 109, 111, 114, 101, 32, 116, 104, 97, 110, 32, 37, 100, 32, 112, 97, 121, 108, 111, 97, 100, 115]⟩ 2 = some [(0, 115, false), (1, 100, false)] := by kernel_rfl
theorem Ybaf.fmt_b : FmtStop.printed? ⟨#[37, 115, 32, 112, 97, 121, 108, 111, 97, 100, 32, 104, 101, 97, 100, 101, 114, 32, 114, 117, 110, 115, 32, 112, 97, 115, 116, 32, 116, 104, 101, 32, 101, 110, 100, 32, 111, 102, 32, 116, 104, 101, 32, 37, 115]⟩ 2 = some [(0, 115, false), (1, 115, false)] := by kernel_rfl
theorem Ybaf.fmt_c : FmtStop.printed? ⟨#[37, 115, 32, 112, 97, 121, 108, 111, 97, 100, 32, 110, 97, 109, 101, 115, 32, 110, 101, 120, 116, 32, 112, 97, 121, 108, 111, 97, 100, 32, 37, 100]⟩ 2 = some [(0, 115, false), (1, 100, false)] := by kernel_rfl
theorem Ybaf.fmt_d : FmtStop.printed? ⟨#[37, 115, 32, 112, 97, 121, 108, 111, 97, 100, 32, 82, 69, 83, 69, 82, 86, 69, 68, 32, 105, 115, 32, 37, 100]⟩ 2 = some [(0, 115, false), (1, 100, false)] := by kernel_rfl
theorem Ybaf.fmt_e : FmtStop.printed? ⟨#[37, 115, 32, 112, 97, 121, 108, 111, 97, 100, 32, 108, 101, 110, 103, 116, 104, 32, 37, 100, 32, 105, 115, 32, 115, 104, 111, 114, 116, 101, 114, 32, 116, 104, 97, 110, 32, 105, 116, 115, 32, 104, 101, 97, 100, 101, 114]⟩ 2 = some [(0, 115, false), (1, 100, false)] := by kernel_rfl
theorem Ybaf.fmt_f : FmtStop.printed? ⟨#[37, 115, 32, 112, 97, 121, 108, 111, 97, 100, 32, 108, 101, 110, 103, 116, 104, 32, 37, 100, 32, 114, 117, 110, 115, 32, 112, 97, 115, 116, 32, 116, 104, 101, 32, 101, 110, 100, 32, 111, 102, 32, 116, 104, 101, 32, 37, 115, 32, 40, 37, 100, 32, 111, 99, 116, 101, 116, 115, 32, 108, 101, 102, 116, 41]⟩ 4 = some [(0, 115, false), (1, 100, false), (2, 115, false), (3, 100, false)] := by kernel_rfl
theorem Ybaf.fmt_g : FmtStop.printed? ⟨#[37, 100, 32, 111, 99, 116, 101, 116, 115, 32, 102, 111, 108, 108, 111, 119, 32, 116, 104, 101, 32, 108, 97, 115, 116, 32, 112, 97, 121, 108, 111, 97, 100]⟩ 1 = some [(0, 100, false)] := by kernel_rfl

/-! What each operand type reads as. -/
def Ybaf.shape28 : List UInt8 := 6 :: [16, 0, 0, 0, 0, 0, 0, 0, 119, 105, 114, 101, 46, 80, 97, 121, 108, 111, 97, 100, 84, 121, 112, 101]
def Ybaf.shape5 : List UInt8 := 6 :: [5, 0, 0, 0, 0, 0, 0, 0, 117, 105, 110, 116, 56]
def Ybaf.shape3 : List UInt8 := 5 :: [3, 0, 0, 0, 0, 0, 0, 0, 105, 110, 116]
def Ybaf.shape9 : List UInt8 := 12 :: [6, 0, 0, 0, 0, 0, 0, 0, 115, 116, 114, 105, 110, 103]
theorem Ybaf.act28_115 (name : String) (x : Value) (w : World) : (FmtCalls.act name false 115 false (.iface 28 x)).run Ybaf.prog w = .ok (.call false) w := by kernel_rfl
theorem Ybaf.act28_100 (name : String) (x : Value) (w : World) : (FmtCalls.act name false 100 false (.iface 28 x)).run Ybaf.prog w = .ok (.closed false) w := by kernel_rfl
theorem Ybaf.op28_100 (name : String) (x : Int) (w : World) : (FmtStop.operand name false 100 false (.iface 28 (.int .u8 x))).run Ybaf.prog w = .ok (Ybaf.shape28, Go.Extern.Stop.digits 8 (x % 2 ^ 64).toNat) w := by kernel_rfl
theorem Ybaf.isString28 (w : World) : (FmtDoors.textMethod 28 "String").run Ybaf.prog w = .ok true w := by kernel_rfl
theorem Ybaf.invokeString28 (x : Value) (w : World) : (invoke (.fn (.method "String") #[]) #[.iface 28 x]).run Ybaf.prog w = .ok (.enter 39 #[x]) w := by kernel_rfl
theorem Ybaf.str28 (w : World) : (typeStr 28).run Ybaf.prog w = .ok "wire.PayloadType" w := by kernel_rfl
theorem Ybaf.act9_115 (name : String) (x : Value) (w : World) : (FmtCalls.act name false 115 false (.iface 9 x)).run Ybaf.prog w = .ok (.closed false) w := by kernel_rfl
theorem Ybaf.op9_115 (name : String) (x : ByteArray) (w : World) : (FmtStop.operand name false 115 false (.iface 9 (.string x))).run Ybaf.prog w = .ok (Ybaf.shape9, FmtStop.pack x.data.toList) w := by kernel_rfl
theorem Ybaf.act3_100 (name : String) (x : Value) (w : World) : (FmtCalls.act name false 100 false (.iface 3 x)).run Ybaf.prog w = .ok (.closed false) w := by kernel_rfl
theorem Ybaf.op3_100 (name : String) (x : Int) (w : World) : (FmtStop.operand name false 100 false (.iface 3 (.int .i64 x))).run Ybaf.prog w = .ok (Ybaf.shape3, Go.Extern.Stop.digits 8 (x % 2 ^ 64).toNat) w := by kernel_rfl
theorem Ybaf.act5_100 (name : String) (x : Value) (w : World) : (FmtCalls.act name false 100 false (.iface 5 x)).run Ybaf.prog w = .ok (.closed false) w := by kernel_rfl
theorem Ybaf.op5_100 (name : String) (x : Int) (w : World) : (FmtStop.operand name false 100 false (.iface 5 (.int .u8 x))).run Ybaf.prog w = .ok (Ybaf.shape5, Go.Extern.Stop.digits 8 (x % 2 ^ 64).toNat) w := by kernel_rfl
end Go.Proofs
