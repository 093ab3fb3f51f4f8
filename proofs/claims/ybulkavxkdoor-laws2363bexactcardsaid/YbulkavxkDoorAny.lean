import Derived.Test.YbulkavxkDoorPlain
import Derived.Test.YbulkavxkDoorIn0
import Derived.Test.YbulkavxkDoorIn1
import Derived.Test.YbulkavxkDoorIn2
import Derived.Test.YbulkavxkDoorIn3
namespace Go.Proofs.YbulkavxkDoor
open Go.RowKit
set_option linter.unusedVariables false
set_option linter.unusedSimpArgs false

theorem v4n_bd (a b c d : Int) (ha : Byte a) (hb : Byte b) (hc : Byte c) (hd : Byte d) : 0 ≤ v4n a b c d ∧ v4n a b c d < 18446744073709551616 := by
  unfold Byte at ha hb hc hd; unfold v4n; omega
theorem be_bd (a b c d e f g h : Int) (ha : Byte a) (hb : Byte b) (hc : Byte c) (hd : Byte d) (he : Byte e) (hf : Byte f) (hg : Byte g) (hh : Byte h) : 0 ≤ be a b c d e f g h ∧ be a b c d e f g h < 18446744073709551616 := by
  unfold Byte at ha hb hc hd he hf hg hh; unfold be; omega
theorem z6_Z {a4 a6 : Addr} (xs : List Int) : Z a4 a6 (z6 a4 a6 xs) := by
  unfold z6; split
  · exact Or.inr (Or.inl rfl)
  · exact Or.inr (Or.inr rfl)

theorem law_any (a4 a6 : Addr) (x0 x1 x2 x3 x4 x5 x6 x7 x8 x9 x10 x11 x12 x13 x14 x15 m p : Int) (zero : Bool) (w : World) (h : G a4 a6 w) (hx : ∀ x ∈ [x0, x1, x2, x3, x4, x5, x6, x7, x8, x9, x10, x11, x12, x13, x14, x15], Byte x) (h0 : 0 ≤ m) (h1 : m < 256) :
    Calls Ybad.prog 4 #[.int .u8 m, .agg #[.int .u8 x0, .int .u8 x1, .int .u8 x2, .int .u8 x3, .int .u8 x4, .int .u8 x5, .int .u8 x6, .int .u8 x7, .int .u8 x8, .int .u8 x9, .int .u8 x10, .int .u8 x11, .int .u8 x12, .int .u8 x13, .int .u8 x14, .int .u8 x15], .bool zero, .int .u16 p] w fun e w' => e = .returned (.bool true) ∧ Below w.heap.size w w' := by
  have bz : Byte 0 := ⟨by decide, by decide⟩
  have z4 : Z a4 a6 (some a4) := Or.inr (Or.inl rfl)
  have z6' : Z a4 a6 (some a6) := Or.inr (Or.inr rfl)
  have hm : m % 4 = 0 ∨ m % 4 = 1 ∨ m % 4 = 2 ∨ m % 4 = 3 := by omega
  rcases hm with hm | hm | hm | hm <;> cases zero
  · exact law_core a4 a6 x0 x1 x2 x3 x4 x5 x6 x7 x8 x9 x10 x11 x12 x13 x14 x15 m p false w h 0 (v4n x0 x1 x2 x3) 0 (lo4 x0 x1 x2 x3) (some a4) (some a4) z4 (fun w1 hb => in0_x a4 a6 x0 x1 x2 x3 x4 x5 x6 x7 x8 x9 x10 x11 x12 x13 x14 x15 m w1 (h.below hb) hx h0 h1 hm)
      (fun w1 hb => dest_any a4 a6 0 (v4n x0 x1 x2 x3) p (some a4) w1 (h.below hb) z4 (v4n_bd x0 x1 x2 x3 (hx _ (by simp) : Byte x0) (hx _ (by simp) : Byte x1) (hx _ (by simp) : Byte x2) (hx _ (by simp) : Byte x3)).1 (v4n_bd x0 x1 x2 x3 (hx _ (by simp) : Byte x0) (hx _ (by simp) : Byte x1) (hx _ (by simp) : Byte x2) (hx _ (by simp) : Byte x3)).2 0 (lo4 x0 x1 x2 x3) (some a4) (destR_v4 h.ne x0 x1 x2 x3 (hx _ (by simp) : Byte x0) (hx _ (by simp) : Byte x1) (hx _ (by simp) : Byte x2) (hx _ (by simp) : Byte x3) _ (um_same h.ne _ _)))
  · exact law_core a4 a6 x0 x1 x2 x3 x4 x5 x6 x7 x8 x9 x10 x11 x12 x13 x14 x15 m p true w h 0 (v4n 0 0 0 0) 0 (lo4 0 0 0 0) (some a4) (some a4) z4 (fun w1 hb => in0_z a4 a6 x0 x1 x2 x3 x4 x5 x6 x7 x8 x9 x10 x11 x12 x13 x14 x15 m w1 (h.below hb) hx h0 h1 hm)
      (fun w1 hb => dest_any a4 a6 0 (v4n 0 0 0 0) p (some a4) w1 (h.below hb) z4 (v4n_bd 0 0 0 0 bz bz bz bz).1 (v4n_bd 0 0 0 0 bz bz bz bz).2 0 (lo4 0 0 0 0) (some a4) (destR_v4 h.ne 0 0 0 0 bz bz bz bz _ (um_same h.ne _ _)))
  · exact law_core a4 a6 x0 x1 x2 x3 x4 x5 x6 x7 x8 x9 x10 x11 x12 x13 x14 x15 m p false w h 0 (be 0 0 255 255 x0 x1 x2 x3) 0 (lo4 x0 x1 x2 x3) (some a6) (some a4) z4 (fun w1 hb => in1_x a4 a6 x0 x1 x2 x3 x4 x5 x6 x7 x8 x9 x10 x11 x12 x13 x14 x15 m w1 (h.below hb) hx h0 h1 hm)
      (fun w1 hb => dest_any a4 a6 0 (be 0 0 255 255 x0 x1 x2 x3) p (some a6) w1 (h.below hb) z6' (by rw [be_v4]; exact (v4n_bd x0 x1 x2 x3 (hx _ (by simp) : Byte x0) (hx _ (by simp) : Byte x1) (hx _ (by simp) : Byte x2) (hx _ (by simp) : Byte x3)).1) (by rw [be_v4]; exact (v4n_bd x0 x1 x2 x3 (hx _ (by simp) : Byte x0) (hx _ (by simp) : Byte x1) (hx _ (by simp) : Byte x2) (hx _ (by simp) : Byte x3)).2) 0 (lo4 x0 x1 x2 x3) (some a4) (by rw [be_v4]; exact destR_v4 h.ne x0 x1 x2 x3 (hx _ (by simp) : Byte x0) (hx _ (by simp) : Byte x1) (hx _ (by simp) : Byte x2) (hx _ (by simp) : Byte x3) _ (um_map _ (v4n_high x0 x1 x2 x3 (hx _ (by simp) : Byte x0) (hx _ (by simp) : Byte x1) (hx _ (by simp) : Byte x2) (hx _ (by simp) : Byte x3)))))
  · exact law_core a4 a6 x0 x1 x2 x3 x4 x5 x6 x7 x8 x9 x10 x11 x12 x13 x14 x15 m p true w h 0 (be 0 0 255 255 0 0 0 0) 0 (lo4 0 0 0 0) (some a6) (some a4) z4 (fun w1 hb => in1_z a4 a6 x0 x1 x2 x3 x4 x5 x6 x7 x8 x9 x10 x11 x12 x13 x14 x15 m w1 (h.below hb) hx h0 h1 hm)
      (fun w1 hb => dest_any a4 a6 0 (be 0 0 255 255 0 0 0 0) p (some a6) w1 (h.below hb) z6' (by rw [be_v4]; exact (v4n_bd 0 0 0 0 bz bz bz bz).1) (by rw [be_v4]; exact (v4n_bd 0 0 0 0 bz bz bz bz).2) 0 (lo4 0 0 0 0) (some a4) (by rw [be_v4]; exact destR_v4 h.ne 0 0 0 0 bz bz bz bz _ (um_map _ (v4n_high 0 0 0 0 bz bz bz bz))))
  · exact law_core a4 a6 x0 x1 x2 x3 x4 x5 x6 x7 x8 x9 x10 x11 x12 x13 x14 x15 m p false w h (be x0 x1 x2 x3 x4 x5 x6 x7) (be x8 x9 x10 x11 x12 x13 x14 x15) (hi6 [x0, x1, x2, x3, x4, x5, x6, x7, x8, x9, x10, x11, x12, x13, x14, x15]) (lo6 [x0, x1, x2, x3, x4, x5, x6, x7, x8, x9, x10, x11, x12, x13, x14, x15]) (some a6) (z6 a4 a6 [x0, x1, x2, x3, x4, x5, x6, x7, x8, x9, x10, x11, x12, x13, x14, x15]) (z6_Z _) (fun w1 hb => in2_x a4 a6 x0 x1 x2 x3 x4 x5 x6 x7 x8 x9 x10 x11 x12 x13 x14 x15 m w1 (h.below hb) hx h0 h1 hm)
      (fun w1 hb => dest_any a4 a6 _ _ p (some a6) w1 (h.below hb) z6' (be_bd x8 x9 x10 x11 x12 x13 x14 x15 (hx _ (by simp) : Byte x8) (hx _ (by simp) : Byte x9) (hx _ (by simp) : Byte x10) (hx _ (by simp) : Byte x11) (hx _ (by simp) : Byte x12) (hx _ (by simp) : Byte x13) (hx _ (by simp) : Byte x14) (hx _ (by simp) : Byte x15)).1 (be_bd x8 x9 x10 x11 x12 x13 x14 x15 (hx _ (by simp) : Byte x8) (hx _ (by simp) : Byte x9) (hx _ (by simp) : Byte x10) (hx _ (by simp) : Byte x11) (hx _ (by simp) : Byte x12) (hx _ (by simp) : Byte x13) (hx _ (by simp) : Byte x14) (hx _ (by simp) : Byte x15)).2 _ _ _ (destR_16 h.ne x0 x1 x2 x3 x4 x5 x6 x7 x8 x9 x10 x11 x12 x13 x14 x15 (hx _ (by simp) : Byte x0) (hx _ (by simp) : Byte x1) (hx _ (by simp) : Byte x2) (hx _ (by simp) : Byte x3) (hx _ (by simp) : Byte x4) (hx _ (by simp) : Byte x5) (hx _ (by simp) : Byte x6) (hx _ (by simp) : Byte x7) (hx _ (by simp) : Byte x8) (hx _ (by simp) : Byte x9) (hx _ (by simp) : Byte x10) (hx _ (by simp) : Byte x11) (hx _ (by simp) : Byte x12) (hx _ (by simp) : Byte x13) (hx _ (by simp) : Byte x14) (hx _ (by simp) : Byte x15)))
  · exact law_core a4 a6 x0 x1 x2 x3 x4 x5 x6 x7 x8 x9 x10 x11 x12 x13 x14 x15 m p true w h (be 0 0 0 0 0 0 0 0) (be 0 0 0 0 0 0 0 0) (hi6 [0, 0, 0, 0, 0, 0, 0, 0, 0, 0, 0, 0, 0, 0, 0, 0]) (lo6 [0, 0, 0, 0, 0, 0, 0, 0, 0, 0, 0, 0, 0, 0, 0, 0]) (some a6) (z6 a4 a6 [0, 0, 0, 0, 0, 0, 0, 0, 0, 0, 0, 0, 0, 0, 0, 0]) (z6_Z _) (fun w1 hb => in2_z a4 a6 x0 x1 x2 x3 x4 x5 x6 x7 x8 x9 x10 x11 x12 x13 x14 x15 m w1 (h.below hb) hx h0 h1 hm)
      (fun w1 hb => dest_any a4 a6 _ _ p (some a6) w1 (h.below hb) z6' (be_bd 0 0 0 0 0 0 0 0 bz bz bz bz bz bz bz bz).1 (be_bd 0 0 0 0 0 0 0 0 bz bz bz bz bz bz bz bz).2 _ _ _ (destR_16 h.ne 0 0 0 0 0 0 0 0 0 0 0 0 0 0 0 0 bz bz bz bz bz bz bz bz bz bz bz bz bz bz bz bz))
  · exact law_core a4 a6 x0 x1 x2 x3 x4 x5 x6 x7 x8 x9 x10 x11 x12 x13 x14 x15 m p false w h 0 0 0 0 none none (Or.inl rfl) (fun w1 hb => in3_any x0 x1 x2 x3 x4 x5 x6 x7 x8 x9 x10 x11 x12 x13 x14 x15 m w1 false h0 h1 hm)
      (fun w1 hb => dest_any a4 a6 0 0 p none w1 (h.below hb) (Or.inl rfl) (by decide) (by decide) 0 0 none destR_none)
  · exact law_core a4 a6 x0 x1 x2 x3 x4 x5 x6 x7 x8 x9 x10 x11 x12 x13 x14 x15 m p true w h 0 0 0 0 none none (Or.inl rfl) (fun w1 hb => in3_any x0 x1 x2 x3 x4 x5 x6 x7 x8 x9 x10 x11 x12 x13 x14 x15 m w1 true h0 h1 hm)
      (fun w1 hb => dest_any a4 a6 0 0 p none w1 (h.below hb) (Or.inl rfl) (by decide) (by decide) 0 0 none destR_none)
end Go.Proofs.YbulkavxkDoor
