import Derived.Test.YbulkavymFmtRows
import Derived.Stop.CallBack
import Derived.Stop.IfaceNil
import Derived.Stop.Asserts
import GoSem.ClaimData
import Derived.WalkKit
import Derived.WalkSpells
import Derived.Laws.EntriesVeiled
import Derived.WalkLawsBesides
namespace Go.Proofs.YbulkavymFmt
open Go.RowKit Go.Extern.Stop Go.Stop Go.Extern
set_option linter.unusedVariables false
set_option linter.unusedSimpArgs false

theorem call6 (args : Array Value) (w : World) : (callFunc 6 args).run Ybaf.prog w = ((FmtStop.errorf #[9, 46] #[38] args).run Ybaf.prog w).andThen fun v w' => .ok (.value v) w' :=
  run_callFunc_extern Ybaf.func6 (by kernel_rfl) (by kernel_rfl) (by kernel_rfl) (by kernel_rfl) args w
theorem guard_ (name : String) (w : World) : (FmtStop.guard name).run Ybaf.prog w = .ok () w := by kernel_rfl
/- The one format, its bytes. -/
theorem fmt0 : FmtStop.printed? ⟨#[107, 101, 121, 32, 37, 113, 32, 104, 97, 115, 32, 98, 101, 101, 110, 32, 119, 114, 105, 116, 116, 101, 110, 32, 98, 121, 32, 97, 32, 116, 114, 97, 110, 115, 97, 99, 116, 105, 111, 110, 32, 116, 104, 97, 116, 32, 99, 111, 109, 109, 105, 116, 116, 101, 100, 32, 115, 105, 110, 99, 101, 32, 116, 104, 105, 115, 32, 111, 110, 101, 32, 114, 101, 97, 100, 32, 105, 116]⟩ 1 = some [(0, 113, false)] := by kernel_rfl
theorem fmt0r (w : World) : (FmtDoors.printed ⟨#[107, 101, 121, 32, 37, 113, 32, 104, 97, 115, 32, 98, 101, 101, 110, 32, 119, 114, 105, 116, 116, 101, 110, 32, 98, 121, 32, 97, 32, 116, 114, 97, 110, 115, 97, 99, 116, 105, 111, 110, 32, 116, 104, 97, 116, 32, 99, 111, 109, 109, 105, 116, 116, 101, 100, 32, 115, 105, 110, 99, 101, 32, 116, 104, 105, 115, 32, 111, 110, 101, 32, 114, 101, 97, 100, 32, 105, 116]⟩ 1).run Ybaf.prog w = .ok [(0, 113, false)] w := by kernel_rfl
def shape9 : List UInt8 := [12, 6, 0, 0, 0, 0, 0, 0, 0, 115, 116, 114, 105, 110, 103]
theorem op9_113w (name : String) (x : ByteArray) (w : World) : (FmtStop.operand name true 113 false (.iface 9 (.string x))).run Ybaf.prog w = .ok (shape9, FmtStop.pack x.data.toList) w := by kernel_rfl
theorem op9_113 (name : String) (x : ByteArray) (w : World) : (FmtStop.operand name false 113 false (.iface 9 (.string x))).run Ybaf.prog w = .ok (shape9, FmtStop.pack x.data.toList) w := by kernel_rfl
theorem ptr49 (w : World) : (FmtStop.ptrTo "errors.errorString").run Ybaf.prog w = .ok 49 w := by kernel_rfl
theorem elem49 (w : World) : (elemOf 49).run Ybaf.prog w = .ok 51 w := by kernel_rfl
theorem isError49 (w : World) : (FmtDoors.textMethod 49 "Error").run Ybaf.prog w = .ok true w := by kernel_rfl
attribute [local go_sem] call6 guard_ fmt0 fmt0r op9_113w op9_113 ptr49 elem49 isError49

theorem n24 (w : World) : (binOp .neq 24 (.slice none 0 0) (.slice none 0 0)).run Ybaf.prog w = .ok (.bool false) w := by kernel_rfl
theorem n25 (w : World) : (binOp .neq 25 (.slice none 0 0) (.slice none 0 0)).run Ybaf.prog w = .ok (.bool false) w := by kernel_rfl
theorem ta40 (a : Addr) (w : World) : (Instr.typeAssert (.iface 40 (.pointer (some a))) 38 40 true).run Ybaf.prog w = .ok (.tuple #[.pointer (some a), .bool true]) w := by kernel_rfl
theorem ta49 (a : Addr) (w : World) : (Instr.typeAssert (.iface 49 (.pointer (some a))) 38 40 true).run Ybaf.prog w = .ok (.tuple #[.pointer none, .bool false]) w := by kernel_rfl
attribute [local go_sem] n24 n25 ta40 ta49

theorem below4 {w : World} (o1 o2 o3 o4 : Obj) : Below w.heap.size w ((((w.alloc o1).alloc o2).alloc o3).alloc o4) :=
  ((((Below.refl _ _).alloc (Nat.le_refl _) _).alloc (by simp) _).alloc (by simp; omega) _).alloc (by simp; omega) _
theorem below5 {w : World} (o1 o2 o3 o4 o5 : Obj) : Below w.heap.size w (((((w.alloc o1).alloc o2).alloc o3).alloc o4).alloc o5) :=
  (below4 o1 o2 o3 o4).alloc (by simp; omega) _
theorem below6 {w : World} (o1 o2 o3 o4 o5 o6 : Obj) : Below w.heap.size w ((((((w.alloc o1).alloc o2).alloc o3).alloc o4).alloc o5).alloc o6) :=
  (below5 o1 o2 o3 o4 o5).alloc (by simp; omega) _

set_option maxRecDepth 100000 in
set_option maxHeartbeats 1000000 in
theorem held (id by_ ver : Int) (nm : ByteArray) (w : World) (h0 : (by_ != 0) = true) (h1 : (by_ != id) = true) :
    Calls Ybaf.prog 3 #[.int .u64 id, .int .u64 by_, .string nm, .int .u64 ver] w fun e w' => e = .returned (.bool true) ∧ Below w.heap.size w w' := by
  go_enter Ybaf.func3, Ybaf.ntmps3
  go_wp2
  go_ret
  exact ⟨rfl, below5 _ _ _ _ _⟩

set_option maxRecDepth 100000 in
set_option maxHeartbeats 1000000 in
theorem moved0 (F : Interp) (id ver : Int) (nm : ByteArray) (w : World) (hF : F.answers w.tape) :
    Calls Ybaf.prog 3 #[.int .u64 id, .int .u64 0, .string nm, .int .u64 ver] w fun e w' => e = .returned (.bool true) ∧ Below w.heap.size w w' := by
  have hF' : ∀ i name reading k range, w.tape i (.extern (word name reading k) range) = F name reading k := hF
  clear hF
  go_enter Ybaf.func3, Ybaf.ntmps3
  go_wp2
  go_ret
  exact ⟨rfl, (below6 _ _ _ _ _ _).drew⟩

set_option maxRecDepth 100000 in
set_option maxHeartbeats 1000000 in
theorem movedS (F : Interp) (id ver : Int) (nm : ByteArray) (w : World) (hF : F.answers w.tape) (h0 : (id != 0) = true) :
    Calls Ybaf.prog 3 #[.int .u64 id, .int .u64 id, .string nm, .int .u64 ver] w fun e w' => e = .returned (.bool true) ∧ Below w.heap.size w w' := by
  have hF' : ∀ i name reading k range, w.tape i (.extern (word name reading k) range) = F name reading k := hF
  clear hF
  go_enter Ybaf.func3, Ybaf.ntmps3
  go_wp2
  go_ret
  exact ⟨rfl, (below6 _ _ _ _ _ _).drew⟩
end Go.Proofs.YbulkavymFmt
