import Derived.Test.YbulkavxkDoorSmall
namespace Go.Proofs.YbulkavxkDoor
open Go.RowKit
set_option linter.unusedVariables false
set_option linter.unusedSimpArgs false

/-- What the three listed variables hold. -/
structure G (a4 a6 : Addr) (w : World) : Prop where
  c4 : w.cell? ⟨0, 0, none⟩ = some (.pointer (some a4))
  c6 : w.cell? ⟨1, 0, none⟩ = some (.pointer (some a6))
  c0 : w.cell? ⟨2, 0, none⟩ = some (.pointer none)
  b4 : ∃ c t, w.heap[a4.block]? = some (.cells c t (0, 0))
  b6 : ∃ c t, w.heap[a6.block]? = some (.cells c t (0, 0))
  ne : a4 ≠ a6

theorem lt_of_heap {w : World} {k : Nat} {o : Obj} (h : w.heap[k]? = some o) : k < w.heap.size := by
  rcases Nat.lt_or_ge k w.heap.size with h' | h'
  · exact h'
  · rw [Array.getElem?_eq_none h'] at h; cases h

theorem G.below {a4 a6 : Addr} {w w' : World} (h : G a4 a6 w) (hb : Below w.heap.size w w') : G a4 a6 w' := by
  obtain ⟨c4, c6, c0, ⟨x4, t4, b4⟩, ⟨x6, t6, b6⟩, ne⟩ := h
  refine ⟨?_, ?_, ?_, ⟨x4, t4, ?_⟩, ⟨x6, t6, ?_⟩, ne⟩
  · rw [hb.cell (block_lt_of_cell c4)]; exact c4
  · rw [hb.cell (block_lt_of_cell c6)]; exact c6
  · rw [hb.cell (block_lt_of_cell c0)]; exact c0
  · rw [hb.block _ (lt_of_heap b4)]; exact b4
  · rw [hb.block _ (lt_of_heap b6)]; exact b6

theorem info86 : Ybad.prog.info? 86 = some Ybad.t86 := by kernel_rfl
theorem size86 : Ybad.t86.size ≠ 0 := by decide

theorem eq_same (a : Addr) (d : Nat) (w : World) : (Op.equalIn (d + 1) 27 (.pointer (some a)) (.pointer (some a))).run Ybad.prog w = .ok true w := by
  simp [Op.equalIn, run_underlying Ybad.underlying27, sizeOf, typeInfo, info86, run_sameAddr_same]
theorem eq_nil (z : Option Addr) (d : Nat) (w : World) : (Op.equalIn (d + 1) 27 (.pointer z) (.pointer none)).run Ybad.prog w = .ok z.isNone w := by
  cases z <;> simp [Op.equalIn, run_underlying Ybad.underlying27]
theorem nil_eq (z : Option Addr) (d : Nat) (w : World) : (Op.equalIn (d + 1) 27 (.pointer none) (.pointer z)).run Ybad.prog w = .ok z.isNone w := by
  cases z <;> simp [Op.equalIn, run_underlying Ybad.underlying27]
theorem G.eq46 {a4 a6 : Addr} {w : World} (h : G a4 a6 w) (d : Nat) : (Op.equalIn (d + 1) 27 (.pointer (some a4)) (.pointer (some a6))).run Ybad.prog w = .ok false w := by
  obtain ⟨x4, t4, b4⟩ := h.b4
  obtain ⟨x6, t6, b6⟩ := h.b6
  simp [Op.equalIn, run_underlying Ybad.underlying27, sizeOf, typeInfo, info86, size86, run_sameAddr_other w h.ne b4 b6]
theorem G.eq64 {a4 a6 : Addr} {w : World} (h : G a4 a6 w) (d : Nat) : (Op.equalIn (d + 1) 27 (.pointer (some a6)) (.pointer (some a4))).run Ybad.prog w = .ok false w := by
  obtain ⟨x4, t4, b4⟩ := h.b4
  obtain ⟨x6, t6, b6⟩ := h.b6
  simp [Op.equalIn, run_underlying Ybad.underlying27, sizeOf, typeInfo, info86, size86, run_sameAddr_other w (Ne.symm h.ne) b6 b4]


theorem ret_bool {a b : Bool} (h : a = b) : Ending.returned (.bool a) = .returned (.bool b) := by rw [h]

set_option maxHeartbeats 400000 in
theorem is4_any (a4 a6 : Addr) (hi lo : Int) (z : Option Addr) (w : World) (h : G a4 a6 w) (hz : z = none ∨ z = some a4 ∨ z = some a6) :
    Calls Ybad.prog 28 #[ad hi lo z] w fun e w' => e = .returned (.bool (decide (z = some a4))) ∧ Below w.heap.size w w' := by
  have hg : ∀ o, G a4 a6 (w.alloc o) := fun o => h.below ((Below.refl _ _).alloc (Nat.le_refl _) _)
  have k4 := fun o => (hg o).c4
  have e64 := fun o => (hg o).eq64
  have e44 := eq_same a4
  have en := nil_eq
  have ne' := Ne.symm h.ne
  clear hg
  rcases hz with rfl | rfl | rfl
  all_goals
    go_enter Ybad.func28, Ybad.ntmps28
    go_wp2
    go_ret
    refine ⟨?_, ((Below.refl _ _).alloc (Nat.le_refl _) _)⟩
    first | (simp; done) | simp [ne']

set_option maxHeartbeats 400000 in
theorem is6_any (a4 a6 : Addr) (hi lo : Int) (z : Option Addr) (w : World) (h : G a4 a6 w) (hz : z = none ∨ z = some a4 ∨ z = some a6) :
    Calls Ybad.prog 34 #[ad hi lo z] w fun e w' => e = .returned (.bool (decide (z = some a6))) ∧ Below w.heap.size w w' := by
  have hg : ∀ o, G a4 a6 (w.alloc o) := fun o => h.below ((Below.refl _ _).alloc (Nat.le_refl _) _)
  have k4 := fun o => (hg o).c4
  have k0 := fun o => (hg o).c0
  have e64 := fun o => (hg o).eq64
  have e44 := eq_same a4
  have en := eq_nil
  have ne' := h.ne
  clear hg
  rcases hz with rfl | rfl | rfl
  all_goals
    go_enter Ybad.func34, Ybad.ntmps34
    go_wp2
    go_ret
    refine ⟨?_, ((Below.refl _ _).alloc (Nat.le_refl _) _)⟩
    first | (simp; done) | simp [ne']

/-- An IPv4-mapped address. -/
def is46 (a6 : Addr) (hi lo : Int) (z : Option Addr) : Bool := decide (z = some a6) && (decide (hi = 0) && decide (lo / 4294967296 = 65535))

theorem bcell {W w1 : World} (hb : Below W.heap.size W w1) : (∀ b o, b < W.heap.size → w1.cell? ⟨b, o, none⟩ = W.cell? ⟨b, o, none⟩) ∧ (∀ b o, b < W.heap.size → w1.frozen? ⟨b, o, none⟩ = W.frozen? ⟨b, o, none⟩) :=
  ⟨fun b o h => hb.cell (p := ⟨b, o, none⟩) h, fun b o h => hb.frozen (p := ⟨b, o, none⟩) h⟩

theorem bup {w w' : World} {o : Obj} (hb : Below (w.alloc o).heap.size (w.alloc o) w') : Below w.heap.size w w' :=
  ((Below.refl _ _).alloc (Nat.le_refl _) _).trans (hb.mono (by simp))

set_option maxHeartbeats 400000 in
theorem is46_any (a4 a6 : Addr) (hi lo : Int) (z : Option Addr) (w : World) (h : G a4 a6 w) (hz : z = none ∨ z = some a4 ∨ z = some a6) (hl : 0 ≤ lo) (hl2 : lo < 18446744073709551616) :
    Calls Ybad.prog 33 #[ad hi lo z] w fun e w' => e = .returned (.bool (is46 a6 hi lo z)) ∧ Below w.heap.size w w' := by
  have hg : ∀ o, G a4 a6 (w.alloc o) := fun o => h.below ((Below.refl _ _).alloc (Nat.le_refl _) _)
  have c := fun hi lo o => is6_any a4 a6 hi lo z (w.alloc o) (hg o) hz
  clear hg hz
  by_cases e1 : z = some a6
  · have d1 : decide (z = some a6) = true := by simpa using e1
    rw [show is46 a6 hi lo z = (decide (hi = 0) && decide (lo / 4294967296 = 65535)) by simp [is46, e1]]
    clear e1
    by_cases e2 : hi = 0
    · subst e2
      go_enter Ybad.func33, Ybad.ntmps33
      go_wp2_with (go_at_call 34; refine (c _ _ _).mono ?_; rintro e w' ⟨rfl, hb⟩; obtain ⟨hc, hf⟩ := bcell hb)
      go_ret
      exact ⟨ret_bool (by rw [Bool.eq_iff_iff]; simp), bup hb⟩
    · have d2 : (hi == 0) = false := by simpa using e2
      have d3 : decide (hi = 0) = false := by simpa using e2
      rw [d3, Bool.false_and]
      clear e2 d3
      go_enter Ybad.func33, Ybad.ntmps33
      go_wp2_with (go_at_call 34; refine (c _ _ _).mono ?_; rintro e w' ⟨rfl, hb⟩; obtain ⟨hc, hf⟩ := bcell hb)
      go_ret
      exact ⟨rfl, bup hb⟩
  · have d1 : decide (z = some a6) = false := by simpa using e1
    rw [show is46 a6 hi lo z = false by simp [is46, e1]]
    clear e1
    go_enter Ybad.func33, Ybad.ntmps33
    go_wp2_with (go_at_call 34; refine (c _ _ _).mono ?_; rintro e w' ⟨rfl, hb⟩; obtain ⟨hc, hf⟩ := bcell hb)
    go_ret
    exact ⟨rfl, bup hb⟩
end Go.Proofs.YbulkavxkDoor
