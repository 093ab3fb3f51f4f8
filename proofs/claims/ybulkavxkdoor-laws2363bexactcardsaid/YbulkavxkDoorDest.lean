import Derived.Test.YbulkavxkDoorUn
namespace Go.Proofs.YbulkavxkDoor
open Go.RowKit
set_option linter.unusedVariables false
set_option linter.unusedSimpArgs false

/-- The handle behind Unmap. -/
def um (a4 a6 : Addr) (hi lo : Int) (z : Option Addr) : Option Addr := if is46 a6 hi lo z = true then some a4 else z

theorem um_Z {a4 a6 : Addr} {hi lo : Int} {z : Option Addr} (hz : Z a4 a6 z) : Z a4 a6 (um a4 a6 hi lo z) := by
  unfold um; split
  · exact Or.inr (Or.inl rfl)
  · exact hz

theorem un_any (a4 a6 : Addr) (hi lo : Int) (z : Option Addr) (w : World) (h : G a4 a6 w) (hz : Z a4 a6 z) (hl : 0 ≤ lo) (hl2 : lo < 18446744073709551616) :
    Calls Ybad.prog 29 #[ad hi lo z] w fun e w' => e = .returned (ad hi lo (um a4 a6 hi lo z)) ∧ Below w.heap.size w w' := by
  cases e : is46 a6 hi lo z
  · rw [show um a4 a6 hi lo z = z by simp [um, e]]; exact unmap_no a4 a6 hi lo z w h hz hl hl2 e
  · rw [show um a4 a6 hi lo z = some a4 by simp [um, e]]; exact unmap_yes a4 a6 hi lo z w h hz hl hl2 e

set_option maxHeartbeats 2000000 in
theorem unmap_any (a4 a6 : Addr) (hi lo p : Int) (z : Option Addr) (w : World) (h : G a4 a6 w) (hz : Z a4 a6 z) (hl : 0 ≤ lo) (hl2 : lo < 18446744073709551616) :
    Calls Ybad.prog 16 #[ap hi lo z p] w fun e w' => e = .returned (ap hi lo (um a4 a6 hi lo z) p) ∧ Below w.heap.size w w' := by
  have c29 : ∀ w1, Below w.heap.size w w1 → _ := fun w1 (hb : Below w.heap.size w w1) => un_any a4 a6 hi lo z w1 (h.below hb) hz hl hl2
  have c25 := fun w1 => addr_any hi lo z p w1
  have c15 := fun w1 => port_any hi lo z p w1
  have c14 := fun w1 => from_any hi lo (um a4 a6 hi lo z) p w1
  have HB : Below ((w.alloc (.cells #[.int .u64 hi, .int .u64 lo, .pointer z, .int .u16 p] 34)).alloc (.cells #[.int .u64 0, .int .u64 0, .pointer none, .int .u16 0] 34)).heap.size ((w.alloc (.cells #[.int .u64 hi, .int .u64 lo, .pointer z, .int .u16 p] 34)).alloc (.cells #[.int .u64 0, .int .u64 0, .pointer none, .int .u16 0] 34))
    ((w.alloc (.cells #[.int .u64 hi, .int .u64 lo, .pointer z, .int .u16 p] 34)).alloc (.cells #[.int .u64 0, .int .u64 0, .pointer none, .int .u16 0] 34)).drew := (Below.refl _ _).drew
  clear h hz hl hl2
  go_enter Ybad.func16, Ybad.ntmps16
  go_wp2_with fail
  go_region_with (first
    | (go_at_call 25; refine (c25 _).mono ?_; rintro e w1 ⟨rfl, hb⟩; replace HB := HB.trans (hb.mono HB.size); obtain ⟨⟨k1, k2⟩, k3, k4⟩ := box2 HB; clear hb)
    | (go_at_call 29; refine (c29 _ (bup2 HB)).mono ?_; rintro e w1 ⟨rfl, hb⟩; replace HB := HB.trans (hb.mono HB.size); obtain ⟨⟨k1, k2⟩, k3, k4⟩ := box2 HB; clear hb)
    | (go_at_call 15; refine (c15 _).mono ?_; rintro e w1 ⟨rfl, hb⟩; replace HB := HB.trans (hb.mono HB.size); obtain ⟨⟨k1, k2⟩, k3, k4⟩ := box2 HB; clear hb)
    | (go_at_call 14; refine (c14 _).mono ?_; rintro e w1 ⟨rfl, hb⟩; replace HB := HB.trans (hb.mono HB.size); obtain ⟨⟨k1, k2⟩, k3, k4⟩ := box2 HB; clear hb))
  all_goals
    go_wp2
    exact bodyPost_ret (v := ap hi lo (um a4 a6 hi lo z) p) (by simp [results, Ybad.results16, go_sem, k3]) rfl ⟨rfl, bset (bset (bset (bset (bup2 HB) _ (by simp)) _ (by simp)) _ (by simp)) _ (by simp)⟩
end Go.Proofs.YbulkavxkDoor
