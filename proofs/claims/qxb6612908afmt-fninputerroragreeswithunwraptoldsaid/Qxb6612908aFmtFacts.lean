import Derived.Test.Qxb6612908aFmtRows
import Derived.Stop.CallBack
import Derived.Stop.IfaceNil
import Derived.Stop.FmtTextKit
import GoSem.ClaimData
namespace Go.Proofs
open Go.Extern.Stop Go.Stop Go.Extern

theorem Tryf.call12 (args : Array Value) (w : World) : (callFunc 12 args).run Tryf.prog w = (FmtCalls.sprintf #[9, 59] #[9] args).run Tryf.prog w :=
  run_callFunc_next Tryf.func12 (by kernel_rfl) (by kernel_rfl) (by kernel_rfl) args w
theorem Tryf.guard (name : String) (w : World) : (FmtStop.guard name).run Tryf.prog w = .ok () w := by kernel_rfl
theorem Tryf.nextTurns : Extern.next FmtCalls.turnsRow = some (FmtCalls.begun #[] #[]) := by kernel_rfl
theorem Tryf.nextReturned : Extern.next FmtCalls.returnedRow = some (FmtCalls.returned #[] #[]) := by kernel_rfl

-- the one format, two operands: a number by 100, an error by 118
theorem Tryf.fmt0 : FmtStop.printed? ⟨#[108, 105, 110, 101, 32, 37, 100, 58, 32, 37, 118]⟩ 2 = some [(0, 100, false), (1, 118, false)] := by kernel_rfl
theorem Tryf.fmt0r (w : World) : (FmtDoors.printed ⟨#[108, 105, 110, 101, 32, 37, 100, 58, 32, 37, 118]⟩ 2).run Tryf.prog w = .ok [(0, 100, false), (1, 118, false)] w := by kernel_rfl

def Tryf.shape3 : List UInt8 := [5, 3, 0, 0, 0, 0, 0, 0, 0, 105, 110, 116]
theorem Tryf.act3_100 (name : String) (x : Value) (w : World) : (FmtCalls.act name false 100 false (.iface 3 x)).run Tryf.prog w = .ok (.closed false) w := by kernel_rfl
theorem Tryf.op3_100 (name : String) (x : Int) (w : World) : (FmtStop.operand name false 100 false (.iface 3 (.int .i64 x))).run Tryf.prog w = .ok (Tryf.shape3, Go.Extern.Stop.digits 8 (x % 2 ^ 64).toNat) w := by kernel_rfl

/-- the pointer type's name: a star and 'errors.errorString' -/
def Tryf.errName : String := ("".push (Char.ofNat 42)).append "errors.errorString"
def Tryf.plain38 : List UInt8 := 14 :: FmtStop.pack Tryf.errName.toUTF8.data.toList
theorem Tryf.actPlain38_118 (name : String) (x : Value) (w : World) : (FmtCalls.act name false 118 false (.iface 38 x)).run Tryf.prog w = .ok (.closed false) w := by kernel_rfl
theorem Tryf.opPlain38_118 (name : String) (a : Addr) (s : ByteArray) (w : World) (hc : w.cell? a = some (.string s)) :
    (FmtStop.operand name false 118 false (.iface 38 (.pointer (some a)))).run Tryf.prog w = .ok (Tryf.plain38, s.data.toList) w := by
  have h1 : (typeStr 38).run Tryf.prog w = .ok Tryf.errName w := by kernel_rfl
  have d2 : Tryf.t38.desc = .pointer 40 := rfl
  have d3 : Tryf.t40.desc = .named "errors.errorString" 39 := rfl
  simp [FmtStop.operand, h1, d2, d3, run_load, hc, Tryf.plain38]

end Go.Proofs
namespace Go.Proofs.Qxb6612908aFmt
open Go.Extern.Stop Go.Stop Go.Extern

/-- what fmt is asked: the format; the line; the error's make and its text -/
def reading (n : Int) (s : List UInt8) : List (List UInt8) :=
  [[108, 105, 110, 101, 32, 37, 100, 58, 32, 37, 118], Tryf.shape3, digits 8 (n % 18446744073709551616).toNat, Tryf.plain38, s]

theorem parse0 : (FmtText.parse [108, 105, 110, 101, 32, 37, 100, 58, 32, 37, 118]).map FmtText.glue = some [.lit [108, 105, 110, 101, 32], .verb {} 100, .lit [58, 32], .verb {} 118] := by rfl

/-- the text that fmt gives: 'line ', the line, ': ', the error's text -/
theorem text0 (n : Int) (s : List UInt8) (hw : (Lit.int .i64 n).wf = true) : FmtText.text "fmt.Sprintf" (reading n s) = some ([108, 105, 110, 101, 32] ++ Lib.itoa n ++ [58, 32] ++ s) := by
  have hi := FmtText.operand_int_at (sh := Tryf.shape3) (k := .i64) rfl rfl n hw
  have hp := FmtText.operand_plain_at (sh := Tryf.plain38) rfl (FmtText.unpack_pack _ (by decide)) s
  rw [reading, FmtText.text_sprintf_glued parse0 (FmtText.operands_cons hi (FmtText.operands_cons hp FmtText.operands_nil))]
  simp [FmtText.render, FmtText.printArg_d _ _ hw, FmtText.printArg_v_said]

end Go.Proofs.Qxb6612908aFmt
