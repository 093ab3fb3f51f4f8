import Derived.Test.YbulkavxkDoorDesy
import Derived.Test.YbulkavxkDoorRow
namespace Go.Proofs.YbulkavxkDoor
open Go.RowKit
set_option linter.unusedVariables false
set_option linter.unusedSimpArgs false

/-- What 'destination' makes of an address. -/
def destR (a4 a6 : Addr) (hi lo : Int) (z : Option Addr) : Int × Int × Option Addr :=
  if isUn a4 a6 hi lo (um a4 a6 hi lo z) = true then (if decide (um a4 a6 hi lo z = some a4) = true then (0, 281472812449793, some a4) else (0, 1, some a6)) else (hi, lo, um a4 a6 hi lo z)

theorem dest_any (a4 a6 : Addr) (hi lo p : Int) (z : Option Addr) (w : World) (h : G a4 a6 w) (hz : Z a4 a6 z) (hl : 0 ≤ lo) (hl2 : lo < 18446744073709551616) (hi' lo' : Int) (z' : Option Addr) (hd : destR a4 a6 hi lo z = (hi', lo', z')) :
    Calls Ybad.prog 13 #[ap hi lo z p] w fun e w' => e = .returned (ap hi' lo' z' p) ∧ Below w.heap.size w w' := by
  unfold destR at hd
  cases hu : isUn a4 a6 hi lo (um a4 a6 hi lo z)
  · rw [hu] at hd
    simp only [Bool.false_eq_true, if_false, Prod.mk.injEq] at hd
    obtain ⟨rfl, rfl, rfl⟩ := hd
    exact dest_no a4 a6 hi lo p z w h hz hl hl2 hu
  · cases h4 : decide (um a4 a6 hi lo z = some a4)
    · rw [hu, h4] at hd
      simp only [Bool.false_eq_true, if_false, if_true, Prod.mk.injEq] at hd
      obtain ⟨rfl, rfl, rfl⟩ := hd
      exact dest_yes6 a4 a6 hi lo p z w h hz hl hl2 hu h4
    · rw [hu, h4] at hd
      simp only [if_true, Prod.mk.injEq] at hd
      obtain ⟨rfl, rfl, rfl⟩ := hd
      exact dest_yes4 a4 a6 hi lo p z w h hz hl hl2 hu h4

set_option maxHeartbeats 2000000 in
theorem law_core (a4 a6 : Addr) (x0 x1 x2 x3 x4 x5 x6 x7 x8 x9 x10 x11 x12 x13 x14 x15 m p : Int) (zero : Bool) (w : World) (h : G a4 a6 w) (hi lo hi' lo' : Int) (z z' : Option Addr) (hz' : Z a4 a6 z')
    (ci : ∀ w1, Below w.heap.size w w1 → Calls Ybad.prog 12 #[.int .u8 m, .agg #[.int .u8 x0, .int .u8 x1, .int .u8 x2, .int .u8 x3, .int .u8 x4, .int .u8 x5, .int .u8 x6, .int .u8 x7, .int .u8 x8, .int .u8 x9, .int .u8 x10, .int .u8 x11, .int .u8 x12, .int .u8 x13, .int .u8 x14, .int .u8 x15], .bool zero] w1 fun e w' => e = .returned (.tuple #[ad hi lo z, ad hi' lo' z']) ∧ Below w1.heap.size w1 w')
    (cd : ∀ w1, Below w.heap.size w w1 → Calls Ybad.prog 13 #[ap hi lo z p] w1 fun e w' => e = .returned (ap hi' lo' z' p) ∧ Below w1.heap.size w1 w') :
    Calls Ybad.prog 4 #[.int .u8 m, .agg #[.int .u8 x0, .int .u8 x1, .int .u8 x2, .int .u8 x3, .int .u8 x4, .int .u8 x5, .int .u8 x6, .int .u8 x7, .int .u8 x8, .int .u8 x9, .int .u8 x10, .int .u8 x11, .int .u8 x12, .int .u8 x13, .int .u8 x14, .int .u8 x15], .bool zero, .int .u16 p] w fun e w' => e = .returned (.bool true) ∧ Below w.heap.size w w' := by
  have c1 := fun w1 => from_any hi lo z p w1
  have c2 := fun w1 => from_any hi' lo' z' p w1
  have HG : Hid (∀ w', Below w.heap.size w w' → G a4 a6 w') := fun w' hb => h.below hb
  clear h
  go_enter Ybad.func4, Ybad.ntmps4
  go_wp2_with fail
  refine (ci _ (bup (Below.refl _ _))).mono ?_
  rintro e w1 ⟨rfl, hb⟩
  replace hb := bup hb
  have R1 : Row w1.heap.size #[.int .u64 hi, .int .u64 lo, .pointer z] ((w1.alloc (.cells #[.int .u64 hi, .int .u64 lo, .pointer z] 31)).alloc (.cells #[.int .u64 hi', .int .u64 lo', .pointer z'] 31)) := (Row.new rfl).old _
  have R2 : Row (w1.heap.size + 1) #[.int .u64 hi', .int .u64 lo', .pointer z'] ((w1.alloc (.cells #[.int .u64 hi, .int .u64 lo, .pointer z] 31)).alloc (.cells #[.int .u64 hi', .int .u64 lo', .pointer z'] 31)) := Row.new (by simp)
  go_wp2_with fail
  replace hb : Below w.heap.size w ((w1.alloc (.cells #[.int .u64 hi, .int .u64 lo, .pointer z] 31)).alloc (.cells #[.int .u64 hi', .int .u64 lo', .pointer z'] 31)) := hb.trans ((bup2 (Below.refl _ _)).mono hb.size)
  generalize (w1.alloc (.cells #[.int .u64 hi, .int .u64 lo, .pointer z] 31)).alloc (.cells #[.int .u64 hi', .int .u64 lo', .pointer z'] 31) = W at *
  generalize w1.heap.size = b1 at *
  refine (c1 _).mono ?_
  rintro e w2 ⟨rfl, g⟩
  replace R1 := R1.below g
  replace R2 := R2.below g
  replace hb := hb.trans (g.mono hb.size)
  clear g W
  go_wp2_with fail
  refine (cd _ hb).mono ?_
  rintro e w3 ⟨rfl, g⟩
  replace R1 := R1.below g
  replace R2 := R2.below g
  replace hb := hb.trans (g.mono hb.size)
  clear g
  have R3 : Row w3.heap.size #[.int .u64 hi', .int .u64 lo', .pointer z', .int .u16 p] (w3.alloc (.cells #[.int .u64 hi', .int .u64 lo', .pointer z', .int .u16 p] 34)) := Row.new rfl
  replace R1 := R1.old (.cells #[.int .u64 hi', .int .u64 lo', .pointer z', .int .u16 p] 34)
  replace R2 := R2.old (.cells #[.int .u64 hi', .int .u64 lo', .pointer z', .int .u16 p] 34)
  replace hb := hb.trans ((bup (o := (.cells #[.int .u64 hi', .int .u64 lo', .pointer z', .int .u16 p] 34)) (Below.refl _ _)).mono hb.size)
  go_wp2_with fail
  generalize w3.alloc (.cells #[.int .u64 hi', .int .u64 lo', .pointer z', .int .u16 p] 34) = W at *
  generalize w3.heap.size = b3 at *
  replace R1 := R1.drew
  replace R2 := R2.drew
  replace R3 := R3.drew
  replace hb := hb.drew
  have k1 := R1.c
  have k2 := R2.c
  have k3 := R3.c
  have HE : Hid (∀ wx, G a4 a6 wx → ∀ d, (Op.equalIn (d + 1) 27 (.pointer z') (.pointer z')).run Ybad.prog wx = .ok true wx) := fun wx hg d => by rw [hg.eqz hz' hz' d]; simp
  clear c1 cd ci hz'
  go_region_with (go_at_call 14; refine (c2 _).mono ?_; rintro e w4 ⟨rfl, g⟩; replace R1 := R1.below g; replace R2 := R2.below g; replace R3 := R3.below g; replace hb := hb.trans (g.mono hb.size); clear g; have k1 := R1.c; have k2 := R2.c; have k3 := R3.c; have E := HE.out _ (HG.out _ hb))
  all_goals
    go_wp2
    go_ret
    exact ⟨rfl, hb⟩
end Go.Proofs.YbulkavxkDoor
