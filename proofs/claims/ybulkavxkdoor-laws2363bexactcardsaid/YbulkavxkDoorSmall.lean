import Derived.Test.YbulkavxkDoorBe
import Derived.LaidEqlPtr
import Derived.Outline
namespace Go.Proofs.YbulkavxkDoor
open Go.RowKit

abbrev ad (hi lo : Int) (z : Option Addr) : Value := .agg #[.int .u64 hi, .int .u64 lo, .pointer z]
abbrev ap (hi lo : Int) (z : Option Addr) (p : Int) : Value := .agg #[.int .u64 hi, .int .u64 lo, .pointer z, .int .u16 p]

set_option maxHeartbeats 400000 in
theorem from_any (hi lo : Int) (z : Option Addr) (p : Int) (w : World) :
    Calls Ybad.prog 14 #[ad hi lo z, .int .u16 p] w fun e w' => e = .returned (ap hi lo z p) ∧ Below w.heap.size w w' := by
  go_enter Ybad.func14, Ybad.ntmps14
  go_wp2
  exact bodyPost_ret (v := ap hi lo z p) (by simp [results, Ybad.results14, go_sem]) rfl ⟨rfl, ((Below.refl _ _).alloc (Nat.le_refl _) _).alloc (by simp) _⟩
set_option maxHeartbeats 400000 in
theorem addr_any (hi lo : Int) (z : Option Addr) (p : Int) (w : World) :
    Calls Ybad.prog 25 #[ap hi lo z p] w fun e w' => e = .returned (ad hi lo z) ∧ Below w.heap.size w w' := by
  go_enter Ybad.func25, Ybad.ntmps25
  go_wp2
  exact bodyPost_ret (v := ad hi lo z) (by simp [results, Ybad.results25, go_sem]) rfl ⟨rfl, ((Below.refl _ _).alloc (Nat.le_refl _) _).alloc (by simp) _⟩
set_option maxHeartbeats 400000 in
theorem port_any (hi lo : Int) (z : Option Addr) (p : Int) (w : World) :
    Calls Ybad.prog 15 #[ap hi lo z p] w fun e w' => e = .returned (.int .u16 p) ∧ Below w.heap.size w w' := by
  go_enter Ybad.func15, Ybad.ntmps15
  go_wp2
  go_ret
  exact ⟨rfl, ((Below.refl _ _).alloc (Nat.le_refl _) _)⟩
end Go.Proofs.YbulkavxkDoor
