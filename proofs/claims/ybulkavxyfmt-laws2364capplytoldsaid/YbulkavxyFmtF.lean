import Derived.Test.YbulkavxyFmtRows
import Derived.Stop.CallBack
import Derived.Stop.IfaceNil
import GoSem.ClaimData
namespace Go.Proofs.YbulkavxyFmt
open Go.Extern.Stop Go.Stop Go.Extern

theorem call11 (args : Array Value) (w : World) : (callFunc 11 args).run Ybaf.prog w = ((FmtStop.errorf #[9, 41] #[30] args).run Ybaf.prog w).andThen fun v w' => .ok (.value v) w' :=
  run_callFunc_extern Ybaf.func11 (by kernel_rfl) (by kernel_rfl) (by kernel_rfl) (by kernel_rfl) args w
theorem guard_ (name : String) (w : World) : (FmtStop.guard name).run Ybaf.prog w = .ok () w := by kernel_rfl

/- The option's one format, its bytes. -/
theorem fmt0 : FmtStop.printed? ⟨#[37, 119, 58, 32, 87, 105, 116, 104, 77, 97, 120, 87, 97, 105, 116, 105, 110, 103, 32, 110, 101, 101, 100, 115, 32, 97, 116, 32, 108, 101, 97, 115, 116, 32, 49, 44, 32, 103, 111, 116, 32, 37, 100]⟩ 2 = some [(0, 119, false), (1, 100, false)] := by kernel_rfl
theorem fmt0r (w : World) : (FmtDoors.printed ⟨#[37, 119, 58, 32, 87, 105, 116, 104, 77, 97, 120, 87, 97, 105, 116, 105, 110, 103, 32, 110, 101, 101, 100, 115, 32, 97, 116, 32, 108, 101, 97, 115, 116, 32, 49, 44, 32, 103, 111, 116, 32, 37, 100]⟩ 2).run Ybaf.prog w = .ok [(0, 119, false), (1, 100, false)] w := by kernel_rfl

def shape3 : List UInt8 := [5, 3, 0, 0, 0, 0, 0, 0, 0, 105, 110, 116]
theorem op3_100w (name : String) (x : Int) (w : World) : (FmtStop.operand name true 100 false (.iface 3 (.int .i64 x))).run Ybaf.prog w = .ok (shape3, Go.Extern.Stop.digits 8 (x % 2 ^ 64).toNat) w := by kernel_rfl
theorem op3_100 (name : String) (x : Int) (w : World) : (FmtStop.operand name false 100 false (.iface 3 (.int .i64 x))).run Ybaf.prog w = .ok (shape3, Go.Extern.Stop.digits 8 (x % 2 ^ 64).toNat) w := by kernel_rfl

theorem ptr55 (w : World) : (FmtStop.ptrTo "errors.errorString").run Ybaf.prog w = .ok 55 w := by kernel_rfl
theorem elem55 (w : World) : (elemOf 55).run Ybaf.prog w = .ok 57 w := by kernel_rfl
theorem isError55 (w : World) : (FmtDoors.textMethod 55 "Error").run Ybaf.prog w = .ok true w := by kernel_rfl
/-- The name of the type of the listed sentinel (a pointer to errors.errorString). -/
def nmErr : String := match (Rows.laid_example_com_tend_tend_ErrInvalidOption : DataW Unit) with
  | .iface s _ => s
  | _ => ""
def plain55 : List UInt8 := 14 :: FmtStop.pack nmErr.toUTF8.data.toList
theorem opPlain55_119w (name : String) (a : Addr) (s : ByteArray) (w : World) (hc : w.cell? a = some (.string s)) :
    (FmtStop.operand name true 119 false (.iface 55 (.pointer (some a)))).run Ybaf.prog w = .ok (plain55, s.data.toList) w := by
  have h1 : (typeStr 55).run Ybaf.prog w = .ok nmErr w := by kernel_rfl
  have d2 : Ybaf.t55.desc = .pointer 57 := rfl
  have d3 : Ybaf.t57.desc = .named "errors.errorString" 56 := rfl
  simp [FmtStop.operand, h1, d2, d3, run_load, hc, plain55]
theorem ptr43 (w : World) : (FmtStop.ptrTo "fmt.wrapError").run Ybaf.prog w = .ok 43 w := by kernel_rfl
theorem elem43 (w : World) : (elemOf 43).run Ybaf.prog w = .ok 83 w := by kernel_rfl
theorem isError43 (w : World) : (FmtDoors.textMethod 43 "Error").run Ybaf.prog w = .ok true w := by kernel_rfl
end Go.Proofs.YbulkavxyFmt
