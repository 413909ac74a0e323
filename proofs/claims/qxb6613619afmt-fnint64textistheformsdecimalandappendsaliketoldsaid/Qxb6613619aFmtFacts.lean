/-
  THE CLOSED FACTS FOR A WALK OVER fmt's STOPPED FRONT 'fmt.errorf' IN THIS PROGRAM, after the guide's TrailerFmt.lean, at this dump's numbers (9: string; 2: int64; 3: int; 28: error; 66: the variadic slice; 75, 77: errors.errorString; 68, 106: fmt.wrapError). Each by the kernel.
-/
import Derived.Test.Qxb6613619aFmtProg
import Derived.Stop.CallBack
import Derived.Stop.IfaceNil
import Derived.WalkKit
import Derived.WalkSpells
import GoSem.ClaimData
namespace Go.Proofs.Qxb6613619aFmt.Fm
open Go.Extern.Stop Go.Stop Go.Extern

theorem call42 (args : Array Value) (w : World) : (callFunc 42 args).run Tryf.prog w = ((FmtStop.errorf #[9, 66] #[28] args).run Tryf.prog w).andThen fun v w' => .ok (.value v) w' :=
  run_callFunc_extern Tryf.func42 (by kernel_rfl) (by kernel_rfl) (by kernel_rfl) (by kernel_rfl) args w
theorem guard (name : String) (w : World) : (FmtStop.guard name).run Tryf.prog w = .ok () w := by kernel_rfl
-- "%w: %d bytes, not %d", 3 operand(s)
theorem bytes : FmtStop.printed? ⟨#[37, 119, 58, 32, 37, 100, 32, 98, 121, 116, 101, 115, 44, 32, 110, 111, 116, 32, 37, 100]⟩ 3 = some [(0, 119, false), (1, 100, false), (2, 100, false)] := by kernel_rfl
theorem bytesR (w : World) : (FmtDoors.printed ⟨#[37, 119, 58, 32, 37, 100, 32, 98, 121, 116, 101, 115, 44, 32, 110, 111, 116, 32, 37, 100]⟩ 3).run Tryf.prog w = .ok [(0, 119, false), (1, 100, false), (2, 100, false)] w := by kernel_rfl
theorem bytes0 : FmtStop.printed? ⟨#[37, 119, 58, 32, 37, 100, 32, 98, 121, 116, 101, 115, 44, 32, 110, 111, 116, 32, 37, 100]⟩ 0 = some [] := by kernel_rfl
theorem bytes0R (w : World) : (FmtDoors.printed ⟨#[37, 119, 58, 32, 37, 100, 32, 98, 121, 116, 101, 115, 44, 32, 110, 111, 116, 32, 37, 100]⟩ 0).run Tryf.prog w = .ok [] w := by kernel_rfl
-- "%w: differs at character %d from the form %s", 3 operand(s)
theorem differs : FmtStop.printed? ⟨#[37, 119, 58, 32, 100, 105, 102, 102, 101, 114, 115, 32, 97, 116, 32, 99, 104, 97, 114, 97, 99, 116, 101, 114, 32, 37, 100, 32, 102, 114, 111, 109, 32, 116, 104, 101, 32, 102, 111, 114, 109, 32, 37, 115]⟩ 3 = some [(0, 119, false), (1, 100, false), (2, 115, false)] := by kernel_rfl
theorem differsR (w : World) : (FmtDoors.printed ⟨#[37, 119, 58, 32, 100, 105, 102, 102, 101, 114, 115, 32, 97, 116, 32, 99, 104, 97, 114, 97, 99, 116, 101, 114, 32, 37, 100, 32, 102, 114, 111, 109, 32, 116, 104, 101, 32, 102, 111, 114, 109, 32, 37, 115]⟩ 3).run Tryf.prog w = .ok [(0, 119, false), (1, 100, false), (2, 115, false)] w := by kernel_rfl
theorem differs0 : FmtStop.printed? ⟨#[37, 119, 58, 32, 100, 105, 102, 102, 101, 114, 115, 32, 97, 116, 32, 99, 104, 97, 114, 97, 99, 116, 101, 114, 32, 37, 100, 32, 102, 114, 111, 109, 32, 116, 104, 101, 32, 102, 111, 114, 109, 32, 37, 115]⟩ 0 = some [] := by kernel_rfl
theorem differs0R (w : World) : (FmtDoors.printed ⟨#[37, 119, 58, 32, 100, 105, 102, 102, 101, 114, 115, 32, 97, 116, 32, 99, 104, 97, 114, 97, 99, 116, 101, 114, 32, 37, 100, 32, 102, 114, 111, 109, 32, 116, 104, 101, 32, 102, 111, 114, 109, 32, 37, 115]⟩ 0).run Tryf.prog w = .ok [] w := by kernel_rfl
-- "%w: not a time from 1970 to 9999", 1 operand(s)
theorem time : FmtStop.printed? ⟨#[37, 119, 58, 32, 110, 111, 116, 32, 97, 32, 116, 105, 109, 101, 32, 102, 114, 111, 109, 32, 49, 57, 55, 48, 32, 116, 111, 32, 57, 57, 57, 57]⟩ 1 = some [(0, 119, false)] := by kernel_rfl
theorem timeR (w : World) : (FmtDoors.printed ⟨#[37, 119, 58, 32, 110, 111, 116, 32, 97, 32, 116, 105, 109, 101, 32, 102, 114, 111, 109, 32, 49, 57, 55, 48, 32, 116, 111, 32, 57, 57, 57, 57]⟩ 1).run Tryf.prog w = .ok [(0, 119, false)] w := by kernel_rfl
theorem time0 : FmtStop.printed? ⟨#[37, 119, 58, 32, 110, 111, 116, 32, 97, 32, 116, 105, 109, 101, 32, 102, 114, 111, 109, 32, 49, 57, 55, 48, 32, 116, 111, 32, 57, 57, 57, 57]⟩ 0 = some [] := by kernel_rfl
theorem time0R (w : World) : (FmtDoors.printed ⟨#[37, 119, 58, 32, 110, 111, 116, 32, 97, 32, 116, 105, 109, 101, 32, 102, 114, 111, 109, 32, 49, 57, 55, 48, 32, 116, 111, 32, 57, 57, 57, 57]⟩ 0).run Tryf.prog w = .ok [] w := by kernel_rfl
-- "%w: time %d ms, counter %d, node %d", 4 operand(s)
theorem hold : FmtStop.printed? ⟨#[37, 119, 58, 32, 116, 105, 109, 101, 32, 37, 100, 32, 109, 115, 44, 32, 99, 111, 117, 110, 116, 101, 114, 32, 37, 100, 44, 32, 110, 111, 100, 101, 32, 37, 100]⟩ 4 = some [(0, 119, false), (1, 100, false), (2, 100, false), (3, 100, false)] := by kernel_rfl
theorem holdR (w : World) : (FmtDoors.printed ⟨#[37, 119, 58, 32, 116, 105, 109, 101, 32, 37, 100, 32, 109, 115, 44, 32, 99, 111, 117, 110, 116, 101, 114, 32, 37, 100, 44, 32, 110, 111, 100, 101, 32, 37, 100]⟩ 4).run Tryf.prog w = .ok [(0, 119, false), (1, 100, false), (2, 100, false), (3, 100, false)] w := by kernel_rfl
theorem hold0 : FmtStop.printed? ⟨#[37, 119, 58, 32, 116, 105, 109, 101, 32, 37, 100, 32, 109, 115, 44, 32, 99, 111, 117, 110, 116, 101, 114, 32, 37, 100, 44, 32, 110, 111, 100, 101, 32, 37, 100]⟩ 0 = some [] := by kernel_rfl
theorem hold0R (w : World) : (FmtDoors.printed ⟨#[37, 119, 58, 32, 116, 105, 109, 101, 32, 37, 100, 32, 109, 115, 44, 32, 99, 111, 117, 110, 116, 101, 114, 32, 37, 100, 44, 32, 110, 111, 100, 101, 32, 37, 100]⟩ 0).run Tryf.prog w = .ok [] w := by kernel_rfl

def shape9 : List UInt8 := [12, 6, 0, 0, 0, 0, 0, 0, 0, 115, 116, 114, 105, 110, 103]
def shape3 : List UInt8 := [5, 3, 0, 0, 0, 0, 0, 0, 0, 105, 110, 116]
def shape2 : List UInt8 := [5, 5, 0, 0, 0, 0, 0, 0, 0, 105, 110, 116, 54, 52]
theorem op9_115w (name : String) (x : ByteArray) (w : World) : (FmtStop.operand name true 115 false (.iface 9 (.string x))).run Tryf.prog w = .ok (shape9, FmtStop.pack x.data.toList) w := by kernel_rfl
theorem op3_100w (name : String) (x : Int) (w : World) : (FmtStop.operand name true 100 false (.iface 3 (.int .i64 x))).run Tryf.prog w = .ok (shape3, Go.Extern.Stop.digits 8 (x % 2 ^ 64).toNat) w := by kernel_rfl
theorem op2_100w (name : String) (x : Int) (w : World) : (FmtStop.operand name true 100 false (.iface 2 (.int .i64 x))).run Tryf.prog w = .ok (shape2, Go.Extern.Stop.digits 8 (x % 2 ^ 64).toNat) w := by kernel_rfl
theorem ptr75 (w : World) : (FmtStop.ptrTo "errors.errorString").run Tryf.prog w = .ok 75 w := by kernel_rfl
theorem elem75 (w : World) : (elemOf 75).run Tryf.prog w = .ok 77 w := by kernel_rfl
theorem isError75 (w : World) : (FmtDoors.textMethod 75 "Error").run Tryf.prog w = .ok true w := by kernel_rfl
def plain75 : List UInt8 := 14 :: FmtStop.pack "*errors.errorString".toUTF8.data.toList
theorem opPlain75_119w (name : String) (a : Addr) (s : ByteArray) (w : World) (hc : w.cell? a = some (.string s)) :
    (FmtStop.operand name true 119 false (.iface 75 (.pointer (some a)))).run Tryf.prog w = .ok (plain75, s.data.toList) w := by
  have h1 : (typeStr 75).run Tryf.prog w = .ok "*errors.errorString" w := by kernel_rfl
  have d2 : Tryf.t75.desc = .pointer 77 := rfl
  have d3 : Tryf.t77.desc = .named "errors.errorString" 76 := rfl
  simp [FmtStop.operand, h1, d2, d3, run_load, hc, plain75]
theorem ptr68 (w : World) : (FmtStop.ptrTo "fmt.wrapError").run Tryf.prog w = .ok 68 w := by kernel_rfl
theorem elem68 (w : World) : (elemOf 68).run Tryf.prog w = .ok 106 w := by kernel_rfl
theorem isError68 (w : World) : (FmtDoors.textMethod 68 "Error").run Tryf.prog w = .ok true w := by kernel_rfl
end Go.Proofs.Qxb6613619aFmt.Fm
