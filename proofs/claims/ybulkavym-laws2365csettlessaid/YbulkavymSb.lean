import Derived.Test.YbulkavymSa
import Derived.Laws.OwnMore
import Derived.Laws.Rows
namespace Go.Proofs.Ybulkavym
open Go.RowKit
set_option linter.unusedVariables false
set_option linter.unusedSimpArgs false

theorem run_neq_ptr_same {P : Program} (w : World) {tp te : TypeId} {j : TypeInfo} (a : Addr) (hp : P.underlying tp = some (.pointer te)) (hte : P.info? te = some j) :
    (binOp .neq tp (.pointer (some a)) (.pointer (some a))).run P w = .ok (.bool false) w := by
  have h : ∀ d : Nat, (Op.equalIn (d + 1) tp (.pointer (some a)) (.pointer (some a))).run P w = .ok true w := fun d => by
    simp [Op.equalIn, run_underlying hp, sizeOf, typeInfo, hte, run_sameAddr_same]
  simp only [binOp]
  simp [Op.equal, Op.maxDepth, h 9999]
theorem own_row {w : World} {base e size g n cap : Nat} {xs : List Value} (h : w.ownsRow base e size (.slice (some ⟨g, 0, none⟩) n cap) n xs) :
    ∃ cur, w.heap[g]? = some (.cells cur e (0, 0)) ∧ cur.size = cap * size ∧ cur.toList.take (n * size) = xs ∧ n ≤ cap ∧ base ≤ g := by
  rcases h.2 with ⟨h, _⟩ | ⟨g', cap', cur, hv, hb, hh, h1, _, hsz, ht⟩
  · cases h
  · simp only [Value.slice.injEq, Option.some.injEq, Addr.mk.injEq] at hv
    obtain ⟨⟨rfl, _⟩, _, rfl⟩ := hv
    exact ⟨cur, hh, hsz, ht, h1, hb⟩
theorem info5b : (Yba.prog.info? 5).map (fun i => (i.zero, i.size, i.bytes)) = some (some (.int .u8 0), 1, 1) := by kernel_rfl
theorem neq73 (a : Addr) (w : World) : (binOp .neq 73 (.pointer (some a)) (.pointer (some a))).run Yba.prog w = .ok (.bool false) w := by
  obtain ⟨i0, hi, _⟩ := info_parts info5b
  exact run_neq_ptr_same w a Yba.underlying73 hi

set_option maxRecDepth 100000 in
set_option maxHeartbeats 1000000 in
theorem same_any (v : Ver) (hv : Good v.b) (w : World) : Calls Yba.prog 11 #[v.agg, v.agg] w fun e w' => e = .returned (.bool true) ∧ Below w.heap.size w w' := by
  obtain ⟨ba, bn, bc, p, wr⟩ := v
  rcases hv with h | ⟨c, s, hs0, hs2, h⟩
  · simp only [Ver.b, Value.slice.injEq] at h
    obtain ⟨rfl, rfl, rfl⟩ := h
    simp only [Ver.agg, Ver.b]
    go_enter Yba.func11, Yba.ntmps11
    go_wp2
    go_region
    all_goals (go_wp2; go_ret; exact ⟨rfl, ((Below.alloc (Below.alloc (Below.refl _ _) (Nat.le_refl _) _) (by simp) _).drew)⟩)
  · simp only [Ver.b, Value.slice.injEq] at h
    obtain ⟨rfl, rfl, rfl⟩ := h
    simp only [Ver.agg, Ver.b]
    have d0 : decide ((0 : Int) < (bc : Int)) = true := by simp; omega
    have d0' : decide (0 < bc) = true := by simp; omega
    have hne := neq73
    go_enter Yba.func11, Yba.ntmps11
    go_wp2
    go_region
    all_goals (go_wp2; go_ret; exact ⟨rfl, ((Below.alloc (Below.alloc (Below.refl _ _) (Nat.le_refl _) _) (by simp) _).drew)⟩)

set_option maxRecDepth 100000 in
set_option maxHeartbeats 1000000 in
theorem ver_any (wr : Int) (p : Bool) (n : Nat) (t : Int) (hn : n ≤ 2) (w : World) :
    Calls Yba.prog 8 #[.int .u64 wr, .bool p, .int .i64 n, .int .u8 t] w fun e w' => ∃ v : Ver, Good v.b ∧ v.p = p ∧ v.w = wr ∧ e = .returned v.agg ∧ Below w.heap.size w w' := by
  obtain ⟨i0, hi, hz0, hz1, hz2⟩ := info_parts info5b
  rcases Nat.eq_zero_or_pos n with rfl | h0
  · go_enter Yba.func8, Yba.ntmps8
    go_wp2
    (try simp only [Exit.inBlock, Exit.then])
    refine bodyPost_ret (results_cell_row rfl _ _ w.heap.size 53 _ (0, 0) _ rfl (heap_alloc_new w _) Yba.underlying53 rfl (by kernel_rfl)) rfl ?_
    exact ⟨⟨none, 0, 0, p, wr⟩, Or.inl rfl, rfl, rfl, rfl, (Below.refl _ _).alloc (Nat.le_refl _) _⟩
  · have d0 : decide ((0 : Int) < (n : Int)) = true := by simp; omega
    have d0' : decide (0 < n) = true := by simp; omega
    go_enter Yba.func8, Yba.ntmps8
    go_wp2_with (first | (at_make; refine wpList_make_full _ rfl _ _ 25 rfl (w.heap.size + 1) 5 i0 (.int .u8 0) 1 Yba.underlying25 hi hz0 hz1 .i64 .i64 _ _ n rfl rfl rfl rfl (by rw [hz2]; omega) (by unfold maxLen; omega) (by simp) ?_; intro w1 hown hg; have hw := (hg.block w.heap.size (by simp) (by simp)).trans (heap_alloc_new w _); have hB : Below w.heap.size w w1 := ((Below.refl _ w).alloc (Nat.le_refl _) _).grown hg (by simp) (fun k h => by cases h); obtain ⟨cur, hcur, hsz, _, _, _⟩ := own_row hown; simp only [World.size_alloc] at hcur; obtain ⟨x, hx⟩ := get_of_size (A := cur) (j := 0) (by omega); have hcx := (cell_blk hcur 0).trans hx; have hzx := frozen_blk hcur; have hz := frozen_blk hw; have hc0 : w1.cell? ⟨w.heap.size, 0, none⟩ = some (.slice none 0 0) := cell_blk hw 0; have hc1 : w1.cell? ⟨w.heap.size, 1, none⟩ = some (.bool false) := cell_blk hw 1; have hc2 : w1.cell? ⟨w.heap.size, 2, none⟩ = some (.int .u64 0) := cell_blk hw 2; have hc3 : w1.cell? ⟨w.heap.size, 3, none⟩ = some (.pointer none) := cell_blk hw 3; have HW : Hid (w1.heap[w.heap.size]? = some (.cells #[.slice none 0 0, .bool false, .int .u64 0, .pointer none] 53 (0, 0))) := hw; clear hw hcur hown hg hx))
    (try simp only [Exit.inBlock, Exit.then])
    refine bodyPost_ret (results_cell_row rfl _ _ w.heap.size 53 #[.slice (some ⟨w.heap.size + 1, 0, none⟩) n n, .bool p, .int .u64 wr, .pointer none] (0, 0) _ rfl (heap_set (heap_set (heap_set (heap_set ((Below.heap_setCell _ _ _ _ (by simp)).trans HW.out) _ _) _ _) _ _) _ _) Yba.underlying53 rfl (by kernel_rfl)) rfl ?_
    refine ⟨⟨some ⟨w.heap.size + 1, 0, none⟩, n, n, p, wr⟩, Or.inr ⟨_, n, h0, hn, rfl⟩, rfl, rfl, rfl, ?_⟩
    exact ((((hB.setCell (Nat.le_succ _) _).setCell (Nat.le_refl _) _).setCell (Nat.le_refl _) _).setCell (Nat.le_refl _) _).setCell (Nat.le_refl _) _
end Go.Proofs.Ybulkavym
