import Derived.Test.YbulkavxkDoorV6
import Derived.Test.YbulkavxkDoorRow
import Derived.Deep.RegionHeld3
namespace Go.Proofs.YbulkavxkDoor
open Go.RowKit
set_option linter.unusedVariables false
set_option linter.unusedSimpArgs false

set_option maxHeartbeats 4000000 in
theorem in1_x (a4 a6 : Addr) (x0 x1 x2 x3 x4 x5 x6 x7 x8 x9 x10 x11 x12 x13 x14 x15 m : Int) (w : World) (h : G a4 a6 w) (hx : ∀ x ∈ [x0, x1, x2, x3, x4, x5, x6, x7, x8, x9, x10, x11, x12, x13, x14, x15], Byte x) (h0 : 0 ≤ m) (h1 : m < 256) (hm : m % 4 = 1) :
    Calls Ybad.prog 12 #[.int .u8 m, .agg #[.int .u8 x0, .int .u8 x1, .int .u8 x2, .int .u8 x3, .int .u8 x4, .int .u8 x5, .int .u8 x6, .int .u8 x7, .int .u8 x8, .int .u8 x9, .int .u8 x10, .int .u8 x11, .int .u8 x12, .int .u8 x13, .int .u8 x14, .int .u8 x15], .bool false] w
      fun e w' => e = .returned (.tuple #[ad 0 (be 0 0 255 255 x0 x1 x2 x3) (some a6), ad 0 (lo4 x0 x1 x2 x3) (some a4)]) ∧ Below w.heap.size w w' := by
  have d0 : (m % 4 == 0) = false := by simp; omega
  have d1 : (m % 4 == 1) = true := by simp; omega
  have hy := hx
  have b0 : Byte x0 := hx _ (by simp)
  have b1 : Byte x1 := hx _ (by simp)
  have b2 : Byte x2 := hx _ (by simp)
  have b3 : Byte x3 := hx _ (by simp)
  have ca : ∀ w1, Below w.heap.size w w1 → _ := fun w1 (hb : Below w.heap.size w w1) => from16_any a4 a6 0 0 0 0 0 0 0 0 0 0 255 255 x0 x1 x2 x3 w1 (h.below hb) (by simp only [List.mem_cons, List.not_mem_nil, or_false]; rintro x (rfl | rfl | rfl | rfl | rfl | rfl | rfl | rfl | rfl | rfl | rfl | rfl | rfl | rfl | rfl | rfl) <;> first | exact b0 | exact b1 | exact b2 | exact b3 | exact ⟨by decide, by decide⟩)
  rw [show be 0 0 0 0 0 0 0 0 = 0 from rfl] at ca
  have cb : ∀ w1, Below w.heap.size w w1 → _ := fun w1 (hb : Below w.heap.size w w1) => v4_any a4 a6 x0 x1 x2 x3 w1 (h.below hb) b0 b1 b2 b3
  generalize be 0 0 255 255 x0 x1 x2 x3 = r1 at *
  generalize lo4 x0 x1 x2 x3 = r4 at *
  clear h hx hy b0 b1 b2 b3 hm
  go_enter Ybad.func12, Ybad.ntmps12
  go_wp2_with fail
  have hb : Below w.heap.size w ((((((w.alloc (.cells #[.int .u8 x0, .int .u8 x1, .int .u8 x2, .int .u8 x3, .int .u8 x4, .int .u8 x5, .int .u8 x6, .int .u8 x7, .int .u8 x8, .int .u8 x9, .int .u8 x10, .int .u8 x11, .int .u8 x12, .int .u8 x13, .int .u8 x14, .int .u8 x15] 49)).alloc (.cells #[.int .u64 0, .int .u64 0, .pointer none] 31)).alloc (.cells #[.int .u64 0, .int .u64 0, .pointer none] 31)).alloc (.cells #[.int .u8 x0, .int .u8 x1, .int .u8 x2, .int .u8 x3, .int .u8 x4, .int .u8 x5, .int .u8 x6, .int .u8 x7, .int .u8 x8, .int .u8 x9, .int .u8 x10, .int .u8 x11, .int .u8 x12, .int .u8 x13, .int .u8 x14, .int .u8 x15] 49)).alloc (.cells #[.int .u8 x0, .int .u8 x1, .int .u8 x2, .int .u8 x3] 62)).alloc (.cells #[.int .u8 0, .int .u8 0, .int .u8 0, .int .u8 0, .int .u8 0, .int .u8 0, .int .u8 0, .int .u8 0, .int .u8 0, .int .u8 0, .int .u8 255, .int .u8 255, .int .u8 x0, .int .u8 x1, .int .u8 x2, .int .u8 x3] 49)) := (((((((Below.refl _ _).alloc (by simp; try omega) _).alloc (by simp; try omega) _).alloc (by simp; try omega) _).alloc (by simp; try omega) _).alloc (by simp; try omega) _).alloc (by simp; try omega) _)
  have R1 : Row (w.heap.size + 1) #[.int .u64 0, .int .u64 0, .pointer none] ((((((w.alloc (.cells #[.int .u8 x0, .int .u8 x1, .int .u8 x2, .int .u8 x3, .int .u8 x4, .int .u8 x5, .int .u8 x6, .int .u8 x7, .int .u8 x8, .int .u8 x9, .int .u8 x10, .int .u8 x11, .int .u8 x12, .int .u8 x13, .int .u8 x14, .int .u8 x15] 49)).alloc (.cells #[.int .u64 0, .int .u64 0, .pointer none] 31)).alloc (.cells #[.int .u64 0, .int .u64 0, .pointer none] 31)).alloc (.cells #[.int .u8 x0, .int .u8 x1, .int .u8 x2, .int .u8 x3, .int .u8 x4, .int .u8 x5, .int .u8 x6, .int .u8 x7, .int .u8 x8, .int .u8 x9, .int .u8 x10, .int .u8 x11, .int .u8 x12, .int .u8 x13, .int .u8 x14, .int .u8 x15] 49)).alloc (.cells #[.int .u8 x0, .int .u8 x1, .int .u8 x2, .int .u8 x3] 62)).alloc (.cells #[.int .u8 0, .int .u8 0, .int .u8 0, .int .u8 0, .int .u8 0, .int .u8 0, .int .u8 0, .int .u8 0, .int .u8 0, .int .u8 0, .int .u8 255, .int .u8 255, .int .u8 x0, .int .u8 x1, .int .u8 x2, .int .u8 x3] 49)) := (((((Row.new (by simp)).old _).old _).old _).old _)
  have R2 : Row (w.heap.size + 1 + 1) #[.int .u64 0, .int .u64 0, .pointer none] ((((((w.alloc (.cells #[.int .u8 x0, .int .u8 x1, .int .u8 x2, .int .u8 x3, .int .u8 x4, .int .u8 x5, .int .u8 x6, .int .u8 x7, .int .u8 x8, .int .u8 x9, .int .u8 x10, .int .u8 x11, .int .u8 x12, .int .u8 x13, .int .u8 x14, .int .u8 x15] 49)).alloc (.cells #[.int .u64 0, .int .u64 0, .pointer none] 31)).alloc (.cells #[.int .u64 0, .int .u64 0, .pointer none] 31)).alloc (.cells #[.int .u8 x0, .int .u8 x1, .int .u8 x2, .int .u8 x3, .int .u8 x4, .int .u8 x5, .int .u8 x6, .int .u8 x7, .int .u8 x8, .int .u8 x9, .int .u8 x10, .int .u8 x11, .int .u8 x12, .int .u8 x13, .int .u8 x14, .int .u8 x15] 49)).alloc (.cells #[.int .u8 x0, .int .u8 x1, .int .u8 x2, .int .u8 x3] 62)).alloc (.cells #[.int .u8 0, .int .u8 0, .int .u8 0, .int .u8 0, .int .u8 0, .int .u8 0, .int .u8 0, .int .u8 0, .int .u8 0, .int .u8 0, .int .u8 255, .int .u8 255, .int .u8 x0, .int .u8 x1, .int .u8 x2, .int .u8 x3] 49)) := ((((Row.new (by simp)).old _).old _).old _)
  have R5 : Row (w.heap.size + 1 + 1 + 1 + 1 + 1) #[.int .u8 0, .int .u8 0, .int .u8 0, .int .u8 0, .int .u8 0, .int .u8 0, .int .u8 0, .int .u8 0, .int .u8 0, .int .u8 0, .int .u8 255, .int .u8 255, .int .u8 x0, .int .u8 x1, .int .u8 x2, .int .u8 x3] ((((((w.alloc (.cells #[.int .u8 x0, .int .u8 x1, .int .u8 x2, .int .u8 x3, .int .u8 x4, .int .u8 x5, .int .u8 x6, .int .u8 x7, .int .u8 x8, .int .u8 x9, .int .u8 x10, .int .u8 x11, .int .u8 x12, .int .u8 x13, .int .u8 x14, .int .u8 x15] 49)).alloc (.cells #[.int .u64 0, .int .u64 0, .pointer none] 31)).alloc (.cells #[.int .u64 0, .int .u64 0, .pointer none] 31)).alloc (.cells #[.int .u8 x0, .int .u8 x1, .int .u8 x2, .int .u8 x3, .int .u8 x4, .int .u8 x5, .int .u8 x6, .int .u8 x7, .int .u8 x8, .int .u8 x9, .int .u8 x10, .int .u8 x11, .int .u8 x12, .int .u8 x13, .int .u8 x14, .int .u8 x15] 49)).alloc (.cells #[.int .u8 x0, .int .u8 x1, .int .u8 x2, .int .u8 x3] 62)).alloc (.cells #[.int .u8 0, .int .u8 0, .int .u8 0, .int .u8 0, .int .u8 0, .int .u8 0, .int .u8 0, .int .u8 0, .int .u8 0, .int .u8 0, .int .u8 255, .int .u8 255, .int .u8 x0, .int .u8 x1, .int .u8 x2, .int .u8 x3] 49)) := (Row.new (by simp))
  have R4 : Row (w.heap.size + 1 + 1 + 1 + 1) #[.int .u8 x0, .int .u8 x1, .int .u8 x2, .int .u8 x3] ((((((w.alloc (.cells #[.int .u8 x0, .int .u8 x1, .int .u8 x2, .int .u8 x3, .int .u8 x4, .int .u8 x5, .int .u8 x6, .int .u8 x7, .int .u8 x8, .int .u8 x9, .int .u8 x10, .int .u8 x11, .int .u8 x12, .int .u8 x13, .int .u8 x14, .int .u8 x15] 49)).alloc (.cells #[.int .u64 0, .int .u64 0, .pointer none] 31)).alloc (.cells #[.int .u64 0, .int .u64 0, .pointer none] 31)).alloc (.cells #[.int .u8 x0, .int .u8 x1, .int .u8 x2, .int .u8 x3, .int .u8 x4, .int .u8 x5, .int .u8 x6, .int .u8 x7, .int .u8 x8, .int .u8 x9, .int .u8 x10, .int .u8 x11, .int .u8 x12, .int .u8 x13, .int .u8 x14, .int .u8 x15] 49)).alloc (.cells #[.int .u8 x0, .int .u8 x1, .int .u8 x2, .int .u8 x3] 62)).alloc (.cells #[.int .u8 0, .int .u8 0, .int .u8 0, .int .u8 0, .int .u8 0, .int .u8 0, .int .u8 0, .int .u8 0, .int .u8 0, .int .u8 0, .int .u8 255, .int .u8 255, .int .u8 x0, .int .u8 x1, .int .u8 x2, .int .u8 x3] 49)) := ((Row.new (by simp)).old _)
  generalize ((((((w.alloc (.cells #[.int .u8 x0, .int .u8 x1, .int .u8 x2, .int .u8 x3, .int .u8 x4, .int .u8 x5, .int .u8 x6, .int .u8 x7, .int .u8 x8, .int .u8 x9, .int .u8 x10, .int .u8 x11, .int .u8 x12, .int .u8 x13, .int .u8 x14, .int .u8 x15] 49)).alloc (.cells #[.int .u64 0, .int .u64 0, .pointer none] 31)).alloc (.cells #[.int .u64 0, .int .u64 0, .pointer none] 31)).alloc (.cells #[.int .u8 x0, .int .u8 x1, .int .u8 x2, .int .u8 x3, .int .u8 x4, .int .u8 x5, .int .u8 x6, .int .u8 x7, .int .u8 x8, .int .u8 x9, .int .u8 x10, .int .u8 x11, .int .u8 x12, .int .u8 x13, .int .u8 x14, .int .u8 x15] 49)).alloc (.cells #[.int .u8 x0, .int .u8 x1, .int .u8 x2, .int .u8 x3] 62)).alloc (.cells #[.int .u8 0, .int .u8 0, .int .u8 0, .int .u8 0, .int .u8 0, .int .u8 0, .int .u8 0, .int .u8 0, .int .u8 0, .int .u8 0, .int .u8 255, .int .u8 255, .int .u8 x0, .int .u8 x1, .int .u8 x2, .int .u8 x3] 49)) = W at *
  replace hb := hb.drew
  replace R1 := R1.drew
  replace R2 := R2.drew
  replace R5 := R5.drew
  replace R4 := R4.drew
  have k1 := R1.c
  have k2 := R2.c
  have k5 := R5.c
  have k4 := R4.c
  have f1 := R1.f
  have f2 := R2.f
  go_region_with (first
    | (go_at_call 22; refine (ca _ hb).mono ?_; rintro e w1 ⟨rfl, g⟩; replace R1 := R1.below g; replace R2 := R2.below g; replace R5 := R5.below g; replace R4 := R4.below g; replace hb := hb.trans (g.mono hb.size); clear g; have k1 := R1.c; have k2 := R2.c; have k5 := R5.c; have k4 := R4.c; have f1 := R1.f; have f2 := R2.f)
    | (go_at_call 23; refine (cb _ hb).mono ?_; rintro e w1 ⟨rfl, g⟩; replace R1 := R1.below g; replace R2 := R2.below g; replace R5 := R5.below g; replace R4 := R4.below g; replace hb := hb.trans (g.mono hb.size); clear g; have k1 := R1.c; have k2 := R2.c; have k5 := R5.c; have k4 := R4.c; have f1 := R1.f; have f2 := R2.f))
  all_goals
    go_wp2
    exact bodyPost_ret (v := .tuple #[ad 0 r1 (some a6), ad 0 r4 (some a4)]) (by simp [results, Ybad.results12, go_sem, k1, k2]) rfl ⟨rfl, bset (bset (bset (bset (bset (bset hb _ (by omega)) _ (by omega)) _ (by omega)) _ (by omega)) _ (by omega)) _ (by omega)⟩

set_option maxHeartbeats 4000000 in
theorem in1_z (a4 a6 : Addr) (x0 x1 x2 x3 x4 x5 x6 x7 x8 x9 x10 x11 x12 x13 x14 x15 m : Int) (w : World) (h : G a4 a6 w) (hx : ∀ x ∈ [x0, x1, x2, x3, x4, x5, x6, x7, x8, x9, x10, x11, x12, x13, x14, x15], Byte x) (h0 : 0 ≤ m) (h1 : m < 256) (hm : m % 4 = 1) :
    Calls Ybad.prog 12 #[.int .u8 m, .agg #[.int .u8 x0, .int .u8 x1, .int .u8 x2, .int .u8 x3, .int .u8 x4, .int .u8 x5, .int .u8 x6, .int .u8 x7, .int .u8 x8, .int .u8 x9, .int .u8 x10, .int .u8 x11, .int .u8 x12, .int .u8 x13, .int .u8 x14, .int .u8 x15], .bool true] w
      fun e w' => e = .returned (.tuple #[ad 0 (be 0 0 255 255 0 0 0 0) (some a6), ad 0 (lo4 0 0 0 0) (some a4)]) ∧ Below w.heap.size w w' := by
  have d0 : (m % 4 == 0) = false := by simp; omega
  have d1 : (m % 4 == 1) = true := by simp; omega
  have hy : ∀ x ∈ ([0, 0, 0, 0, 0, 0, 0, 0, 0, 0, 0, 0, 0, 0, 0, 0] : List Int), Byte x := by simp [Byte]
  have b0 : Byte 0 := ⟨by decide, by decide⟩
  have b1 := b0
  have b2 := b0
  have b3 := b0
  have ca : ∀ w1, Below w.heap.size w w1 → _ := fun w1 (hb : Below w.heap.size w w1) => from16_any a4 a6 0 0 0 0 0 0 0 0 0 0 255 255 0 0 0 0 w1 (h.below hb) (by simp only [List.mem_cons, List.not_mem_nil, or_false]; rintro x (rfl | rfl | rfl | rfl | rfl | rfl | rfl | rfl | rfl | rfl | rfl | rfl | rfl | rfl | rfl | rfl) <;> first | exact b0 | exact b1 | exact b2 | exact b3 | exact ⟨by decide, by decide⟩)
  rw [show be 0 0 0 0 0 0 0 0 = 0 from rfl] at ca
  have cb : ∀ w1, Below w.heap.size w w1 → _ := fun w1 (hb : Below w.heap.size w w1) => v4_any a4 a6 0 0 0 0 w1 (h.below hb) b0 b1 b2 b3
  generalize be 0 0 255 255 0 0 0 0 = r1 at *
  generalize lo4 0 0 0 0 = r4 at *
  clear h hx hy b0 b1 b2 b3 hm
  go_enter Ybad.func12, Ybad.ntmps12
  go_wp2_with fail
  have hb : Below w.heap.size w ((((((w.alloc (.cells #[.int .u8 x0, .int .u8 x1, .int .u8 x2, .int .u8 x3, .int .u8 x4, .int .u8 x5, .int .u8 x6, .int .u8 x7, .int .u8 x8, .int .u8 x9, .int .u8 x10, .int .u8 x11, .int .u8 x12, .int .u8 x13, .int .u8 x14, .int .u8 x15] 49)).alloc (.cells #[.int .u64 0, .int .u64 0, .pointer none] 31)).alloc (.cells #[.int .u64 0, .int .u64 0, .pointer none] 31)).alloc (.cells #[.int .u8 0, .int .u8 0, .int .u8 0, .int .u8 0, .int .u8 0, .int .u8 0, .int .u8 0, .int .u8 0, .int .u8 0, .int .u8 0, .int .u8 0, .int .u8 0, .int .u8 0, .int .u8 0, .int .u8 0, .int .u8 0] 49)).alloc (.cells #[.int .u8 0, .int .u8 0, .int .u8 0, .int .u8 0] 62)).alloc (.cells #[.int .u8 0, .int .u8 0, .int .u8 0, .int .u8 0, .int .u8 0, .int .u8 0, .int .u8 0, .int .u8 0, .int .u8 0, .int .u8 0, .int .u8 255, .int .u8 255, .int .u8 0, .int .u8 0, .int .u8 0, .int .u8 0] 49)) := (((((((Below.refl _ _).alloc (by simp; try omega) _).alloc (by simp; try omega) _).alloc (by simp; try omega) _).alloc (by simp; try omega) _).alloc (by simp; try omega) _).alloc (by simp; try omega) _)
  have R1 : Row (w.heap.size + 1) #[.int .u64 0, .int .u64 0, .pointer none] ((((((w.alloc (.cells #[.int .u8 x0, .int .u8 x1, .int .u8 x2, .int .u8 x3, .int .u8 x4, .int .u8 x5, .int .u8 x6, .int .u8 x7, .int .u8 x8, .int .u8 x9, .int .u8 x10, .int .u8 x11, .int .u8 x12, .int .u8 x13, .int .u8 x14, .int .u8 x15] 49)).alloc (.cells #[.int .u64 0, .int .u64 0, .pointer none] 31)).alloc (.cells #[.int .u64 0, .int .u64 0, .pointer none] 31)).alloc (.cells #[.int .u8 0, .int .u8 0, .int .u8 0, .int .u8 0, .int .u8 0, .int .u8 0, .int .u8 0, .int .u8 0, .int .u8 0, .int .u8 0, .int .u8 0, .int .u8 0, .int .u8 0, .int .u8 0, .int .u8 0, .int .u8 0] 49)).alloc (.cells #[.int .u8 0, .int .u8 0, .int .u8 0, .int .u8 0] 62)).alloc (.cells #[.int .u8 0, .int .u8 0, .int .u8 0, .int .u8 0, .int .u8 0, .int .u8 0, .int .u8 0, .int .u8 0, .int .u8 0, .int .u8 0, .int .u8 255, .int .u8 255, .int .u8 0, .int .u8 0, .int .u8 0, .int .u8 0] 49)) := (((((Row.new (by simp)).old _).old _).old _).old _)
  have R2 : Row (w.heap.size + 1 + 1) #[.int .u64 0, .int .u64 0, .pointer none] ((((((w.alloc (.cells #[.int .u8 x0, .int .u8 x1, .int .u8 x2, .int .u8 x3, .int .u8 x4, .int .u8 x5, .int .u8 x6, .int .u8 x7, .int .u8 x8, .int .u8 x9, .int .u8 x10, .int .u8 x11, .int .u8 x12, .int .u8 x13, .int .u8 x14, .int .u8 x15] 49)).alloc (.cells #[.int .u64 0, .int .u64 0, .pointer none] 31)).alloc (.cells #[.int .u64 0, .int .u64 0, .pointer none] 31)).alloc (.cells #[.int .u8 0, .int .u8 0, .int .u8 0, .int .u8 0, .int .u8 0, .int .u8 0, .int .u8 0, .int .u8 0, .int .u8 0, .int .u8 0, .int .u8 0, .int .u8 0, .int .u8 0, .int .u8 0, .int .u8 0, .int .u8 0] 49)).alloc (.cells #[.int .u8 0, .int .u8 0, .int .u8 0, .int .u8 0] 62)).alloc (.cells #[.int .u8 0, .int .u8 0, .int .u8 0, .int .u8 0, .int .u8 0, .int .u8 0, .int .u8 0, .int .u8 0, .int .u8 0, .int .u8 0, .int .u8 255, .int .u8 255, .int .u8 0, .int .u8 0, .int .u8 0, .int .u8 0] 49)) := ((((Row.new (by simp)).old _).old _).old _)
  have R5 : Row (w.heap.size + 1 + 1 + 1 + 1 + 1) #[.int .u8 0, .int .u8 0, .int .u8 0, .int .u8 0, .int .u8 0, .int .u8 0, .int .u8 0, .int .u8 0, .int .u8 0, .int .u8 0, .int .u8 255, .int .u8 255, .int .u8 0, .int .u8 0, .int .u8 0, .int .u8 0] ((((((w.alloc (.cells #[.int .u8 x0, .int .u8 x1, .int .u8 x2, .int .u8 x3, .int .u8 x4, .int .u8 x5, .int .u8 x6, .int .u8 x7, .int .u8 x8, .int .u8 x9, .int .u8 x10, .int .u8 x11, .int .u8 x12, .int .u8 x13, .int .u8 x14, .int .u8 x15] 49)).alloc (.cells #[.int .u64 0, .int .u64 0, .pointer none] 31)).alloc (.cells #[.int .u64 0, .int .u64 0, .pointer none] 31)).alloc (.cells #[.int .u8 0, .int .u8 0, .int .u8 0, .int .u8 0, .int .u8 0, .int .u8 0, .int .u8 0, .int .u8 0, .int .u8 0, .int .u8 0, .int .u8 0, .int .u8 0, .int .u8 0, .int .u8 0, .int .u8 0, .int .u8 0] 49)).alloc (.cells #[.int .u8 0, .int .u8 0, .int .u8 0, .int .u8 0] 62)).alloc (.cells #[.int .u8 0, .int .u8 0, .int .u8 0, .int .u8 0, .int .u8 0, .int .u8 0, .int .u8 0, .int .u8 0, .int .u8 0, .int .u8 0, .int .u8 255, .int .u8 255, .int .u8 0, .int .u8 0, .int .u8 0, .int .u8 0] 49)) := (Row.new (by simp))
  have R4 : Row (w.heap.size + 1 + 1 + 1 + 1) #[.int .u8 0, .int .u8 0, .int .u8 0, .int .u8 0] ((((((w.alloc (.cells #[.int .u8 x0, .int .u8 x1, .int .u8 x2, .int .u8 x3, .int .u8 x4, .int .u8 x5, .int .u8 x6, .int .u8 x7, .int .u8 x8, .int .u8 x9, .int .u8 x10, .int .u8 x11, .int .u8 x12, .int .u8 x13, .int .u8 x14, .int .u8 x15] 49)).alloc (.cells #[.int .u64 0, .int .u64 0, .pointer none] 31)).alloc (.cells #[.int .u64 0, .int .u64 0, .pointer none] 31)).alloc (.cells #[.int .u8 0, .int .u8 0, .int .u8 0, .int .u8 0, .int .u8 0, .int .u8 0, .int .u8 0, .int .u8 0, .int .u8 0, .int .u8 0, .int .u8 0, .int .u8 0, .int .u8 0, .int .u8 0, .int .u8 0, .int .u8 0] 49)).alloc (.cells #[.int .u8 0, .int .u8 0, .int .u8 0, .int .u8 0] 62)).alloc (.cells #[.int .u8 0, .int .u8 0, .int .u8 0, .int .u8 0, .int .u8 0, .int .u8 0, .int .u8 0, .int .u8 0, .int .u8 0, .int .u8 0, .int .u8 255, .int .u8 255, .int .u8 0, .int .u8 0, .int .u8 0, .int .u8 0] 49)) := ((Row.new (by simp)).old _)
  generalize ((((((w.alloc (.cells #[.int .u8 x0, .int .u8 x1, .int .u8 x2, .int .u8 x3, .int .u8 x4, .int .u8 x5, .int .u8 x6, .int .u8 x7, .int .u8 x8, .int .u8 x9, .int .u8 x10, .int .u8 x11, .int .u8 x12, .int .u8 x13, .int .u8 x14, .int .u8 x15] 49)).alloc (.cells #[.int .u64 0, .int .u64 0, .pointer none] 31)).alloc (.cells #[.int .u64 0, .int .u64 0, .pointer none] 31)).alloc (.cells #[.int .u8 0, .int .u8 0, .int .u8 0, .int .u8 0, .int .u8 0, .int .u8 0, .int .u8 0, .int .u8 0, .int .u8 0, .int .u8 0, .int .u8 0, .int .u8 0, .int .u8 0, .int .u8 0, .int .u8 0, .int .u8 0] 49)).alloc (.cells #[.int .u8 0, .int .u8 0, .int .u8 0, .int .u8 0] 62)).alloc (.cells #[.int .u8 0, .int .u8 0, .int .u8 0, .int .u8 0, .int .u8 0, .int .u8 0, .int .u8 0, .int .u8 0, .int .u8 0, .int .u8 0, .int .u8 255, .int .u8 255, .int .u8 0, .int .u8 0, .int .u8 0, .int .u8 0] 49)) = W at *
  replace hb := hb.drew
  replace R1 := R1.drew
  replace R2 := R2.drew
  replace R5 := R5.drew
  replace R4 := R4.drew
  have k1 := R1.c
  have k2 := R2.c
  have k5 := R5.c
  have k4 := R4.c
  have f1 := R1.f
  have f2 := R2.f
  go_region_with (first
    | (go_at_call 22; refine (ca _ hb).mono ?_; rintro e w1 ⟨rfl, g⟩; replace R1 := R1.below g; replace R2 := R2.below g; replace R5 := R5.below g; replace R4 := R4.below g; replace hb := hb.trans (g.mono hb.size); clear g; have k1 := R1.c; have k2 := R2.c; have k5 := R5.c; have k4 := R4.c; have f1 := R1.f; have f2 := R2.f)
    | (go_at_call 23; refine (cb _ hb).mono ?_; rintro e w1 ⟨rfl, g⟩; replace R1 := R1.below g; replace R2 := R2.below g; replace R5 := R5.below g; replace R4 := R4.below g; replace hb := hb.trans (g.mono hb.size); clear g; have k1 := R1.c; have k2 := R2.c; have k5 := R5.c; have k4 := R4.c; have f1 := R1.f; have f2 := R2.f))
  all_goals
    go_wp2
    exact bodyPost_ret (v := .tuple #[ad 0 r1 (some a6), ad 0 r4 (some a4)]) (by simp [results, Ybad.results12, go_sem, k1, k2]) rfl ⟨rfl, bset (bset (bset (bset (bset (bset hb _ (by omega)) _ (by omega)) _ (by omega)) _ (by omega)) _ (by omega)) _ (by omega)⟩
end Go.Proofs.YbulkavxkDoor
