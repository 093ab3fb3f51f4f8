import Derived.Test.YbulkavxyFmtIs
import Derived.WalkLawsBesides
namespace Go.Proofs.YbulkavxyFmt
open Go.RowKit Go.Extern.Stop Go.Stop Go.Extern
set_option linter.unusedVariables false
set_option linter.unusedSimpArgs false

theorem fn_nil (f : Fn) (x c : Array Value) (w : World) : (binOp .eql 27 (.func f x c) .nilFunc).run Ybaf.prog w = .ok (.bool false) w := by
  have h : ∀ d : Nat, (Op.equalIn (d + 1) 27 (.func f x c) .nilFunc).run Ybaf.prog w = .ok false w := fun d => by simp [Op.equalIn, run_underlying Ybaf.underlying27]
  simp only [binOp]
  simp [Op.equal, Op.maxDepth, h 9999]
theorem nil_nil (w : World) : (binOp .neq 23 .nilFunc .nilFunc).run Ybaf.prog w = .ok (.bool false) w := by
  have h : ∀ d : Nat, (Op.equalIn (d + 1) 23 .nilFunc .nilFunc).run Ybaf.prog w = .ok true w := fun d => by simp [Op.equalIn, run_underlying Ybaf.underlying23]
  simp only [binOp]
  simp [Op.equal, Op.maxDepth, h 9999]

set_option maxHeartbeats 400000 in
theorem apply_hi (n m d burst interval idle : Int) (w : World) (h : 1 ≤ n) (h2 : n ≤ 9223372036854775807) :
    Calls Ybaf.prog 3 #[.int .i64 n, .int .i64 m, .int .i64 d, .int .i64 burst, .int .i64 interval, .int .i64 idle] w fun e w' => e = .returned (.bool true) ∧ Below w.heap.size w w' := by
  have hm := mkf
  have hn : ¬ n < 1 := by omega
  have e1 := fn_nil
  have e2 := nil_nil
  go_enter Ybaf.func3, Ybaf.ntmps3
  go_wp2
  go_ret
  exact ⟨rfl, bup2 (Below.refl _ _)⟩

set_option maxHeartbeats 1000000 in
theorem apply_lo (F : Interp) (n m d burst interval idle : Int) (a : Addr) (s : ByteArray) (w : World) (h : n < 1) (hF : F.answers w.tape) (hg : w.cell? ⟨0, 0, none⟩ = some (.iface 55 (.pointer (some a)))) (hs : w.cell? a = some (.string s)) :
    Calls Ybaf.prog 3 #[.int .i64 n, .int .i64 m, .int .i64 d, .int .i64 burst, .int .i64 interval, .int .i64 idle] w fun e w' => e = .returned (.bool true) ∧ Below w.heap.size w w' := by
  have c7 : ∀ (o : Addr) (b : Nat) (w1 : World), Below w.heap.size w w1 → w1.cell? ⟨b, 0, none⟩ = some (.int .i64 n) → _ := fun o b w1 (hb : Below w.heap.size w w1) hc =>
    clo_lo F n a o b s w1 h (by rw [hb.tape]; exact hF) ((hb.cell (block_lt_of_cell hg)).trans hg) ((hb.cell (block_lt_of_cell hs)).trans hs) hc
  have HGl : Hid (∀ w1, Below w.heap.size w w1 → w1.cell? ⟨0, 0, none⟩ = some (.iface 55 (.pointer (some a)))) := fun w1 hb => (hb.cell (block_lt_of_cell hg)).trans hg
  have c6 := is_wrap_same
  have hm := mkf
  have e1 := fn_nil
  have e2 := nil_nil
  clear hF hg hs
  go_enter Ybaf.func3, Ybaf.ntmps3
  go_wp2_with (first | (go_at_call 5; go_in) | fail)
  have R1 : Row w.heap.size #[.int .i64 m, .int .i64 d, .nilFunc, .int .i64 burst, .int .i64 interval, .int .i64 idle] ((w.alloc (.cells #[.int .i64 m, .int .i64 d, .nilFunc, .int .i64 burst, .int .i64 interval, .int .i64 idle] 25)).alloc (.cells #[.int .i64 n] 3)) := (Row.new rfl).old _
  have R2 : Row (w.heap.size + 1) #[.int .i64 n] ((w.alloc (.cells #[.int .i64 m, .int .i64 d, .nilFunc, .int .i64 burst, .int .i64 interval, .int .i64 idle] 25)).alloc (.cells #[.int .i64 n] 3)) := Row.new (by simp)
  have hb : Below w.heap.size w ((w.alloc (.cells #[.int .i64 m, .int .i64 d, .nilFunc, .int .i64 burst, .int .i64 interval, .int .i64 idle] 25)).alloc (.cells #[.int .i64 n] 3)) := bup2 (Below.refl _ _)
  generalize (w.alloc (.cells #[.int .i64 m, .int .i64 d, .nilFunc, .int .i64 burst, .int .i64 interval, .int .i64 idle] 25)).alloc (.cells #[.int .i64 n] 3) = W at *
  refine (c7 _ _ _ hb (R2.c 0)).mono ?_
  rintro e w1 ⟨k, t, rfl, hk, hcell, g⟩
  replace R1 := R1.below g
  replace hb := hb.trans (g.mono hb.size)
  have hw : w1.cell? ⟨k, 0 + 1, none⟩ = some (.iface 55 (.pointer (some a))) := cell_of_row w1 k 1 _ _ _ hcell
  have g1 := HGl.out _ hb
  have k1 := R1.c
  clear g c7 HGl R2 hcell hk
  go_wp2_with fail
  refine (c6 k 0 a w1 hw).mono ?_
  rintro e w2 ⟨rfl, rfl⟩
  clear c6
  go_wp2
  go_ret
  exact ⟨rfl, hb⟩
end Go.Proofs.YbulkavxyFmt
