import Derived.Test.YbulkavxkDoorRow
namespace Go.Proofs.YbulkavxkDoor
open Go.RowKit
set_option linter.unusedVariables false
set_option linter.unusedSimpArgs false

set_option maxHeartbeats 2000000 in
theorem in3_any (x0 x1 x2 x3 x4 x5 x6 x7 x8 x9 x10 x11 x12 x13 x14 x15 m : Int) (w : World) (zero : Bool) (h0 : 0 ≤ m) (h1 : m < 256) (hm : m % 4 = 3) :
    Calls Ybad.prog 12 #[.int .u8 m, .agg #[.int .u8 x0, .int .u8 x1, .int .u8 x2, .int .u8 x3, .int .u8 x4, .int .u8 x5, .int .u8 x6, .int .u8 x7, .int .u8 x8, .int .u8 x9, .int .u8 x10, .int .u8 x11, .int .u8 x12, .int .u8 x13, .int .u8 x14, .int .u8 x15], .bool zero] w
      fun e w' => e = .returned (.tuple #[ad 0 0 none, ad 0 0 none]) ∧ Below w.heap.size w w' := by
  have d0 : (m % 4 == 0) = false := by simp; omega
  have d1 : (m % 4 == 1) = false := by simp; omega
  have d2 : (m % 4 == 2) = false := by simp; omega
  clear hm
  cases zero
  all_goals
    go_enter Ybad.func12, Ybad.ntmps12
    go_wp2_with fail
    exact bodyPost_ret (v := .tuple #[ad 0 0 none, ad 0 0 none]) (by simp [results, Ybad.results12, go_sem]) rfl ⟨rfl, (((((Below.refl _ _).alloc (Nat.le_refl _) _).alloc (by simp) _).alloc (by simp; omega) _).alloc (by simp; omega) _).alloc (by simp; omega) _⟩
end Go.Proofs.YbulkavxkDoor
