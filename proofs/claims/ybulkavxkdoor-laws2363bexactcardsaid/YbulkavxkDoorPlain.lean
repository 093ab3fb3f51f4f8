import Derived.Test.YbulkavxkDoorLaw
import Derived.Test.YbulkavxkDoorV6
namespace Go.Proofs.YbulkavxkDoor
open Go.RowKit
set_option linter.unusedVariables false
set_option linter.unusedSimpArgs false

theorem destR_v4 {a4 a6 : Addr} (ne : a4 ≠ a6) (a b c d : Int) (ha : 0 ≤ a ∧ a < 256) (hb : 0 ≤ b ∧ b < 256) (hc : 0 ≤ c ∧ c < 256) (hd : 0 ≤ d ∧ d < 256) (z : Option Addr) (hu : um a4 a6 0 (v4n a b c d) z = some a4) :
    destR a4 a6 0 (v4n a b c d) z = (0, lo4 a b c d, some a4) := by
  unfold destR
  rw [hu]
  have e : isUn a4 a6 0 (v4n a b c d) (some a4) = decide (a = 0 ∧ b = 0 ∧ c = 0 ∧ d = 0) := by
    have n : ¬ some a4 = some a6 := fun e => ne (Option.some.inj e)
    rw [Bool.eq_iff_iff]
    simp only [isUn, eq3, n, decide_false, Bool.and_false, Bool.or_false, decide_true, Bool.true_and, Bool.and_true, decide_eq_true_eq]
    unfold v4n
    omega
  rw [e]
  by_cases h : a = 0 ∧ b = 0 ∧ c = 0 ∧ d = 0
  · simp [h, lo4]
  · simp [h, lo4]

theorem um_same {a4 a6 : Addr} (ne : a4 ≠ a6) (hi lo : Int) : um a4 a6 hi lo (some a4) = some a4 := by
  have n : ¬ some a4 = some a6 := fun e => ne (Option.some.inj e)
  simp [um]

theorem um_map {a4 a6 : Addr} (lo : Int) (h : lo / 4294967296 = 65535) : um a4 a6 0 lo (some a6) = some a4 := by
  simp [um, is46, h]

theorem v4n_high (a b c d : Int) (ha : 0 ≤ a ∧ a < 256) (hb : 0 ≤ b ∧ b < 256) (hc : 0 ≤ c ∧ c < 256) (hd : 0 ≤ d ∧ d < 256) : v4n a b c d / 4294967296 = 65535 := by
  unfold v4n; omega

theorem destR_6 {a4 a6 : Addr} (ne : a4 ≠ a6) (hi lo : Int) (h : ¬ (hi = 0 ∧ lo / 4294967296 = 65535)) :
    destR a4 a6 hi lo (some a6) = if hi = 0 ∧ lo = 0 then (0, 1, some a6) else (hi, lo, some a6) := by
  have n : ¬ some a6 = some a4 := fun e => ne (Option.some.inj e).symm
  have hu : um a4 a6 hi lo (some a6) = some a6 := by
    have : is46 a6 hi lo (some a6) = false := by
      rw [Bool.eq_false_iff]
      simp only [is46, decide_true, Bool.true_and, ne_eq, Bool.and_eq_true, decide_eq_true_eq]
      exact h
    simp [um, this]
  unfold destR
  rw [hu]
  have e : isUn a4 a6 hi lo (some a6) = decide (hi = 0 ∧ lo = 0) := by
    rw [Bool.eq_iff_iff]
    simp [isUn, eq3, n]
  rw [e]
  have n' : ¬ a6 = a4 := fun e => ne e.symm
  by_cases k : hi = 0 ∧ lo = 0
  · simp [k, n']
  · simp [k]

theorem destR_none {a4 a6 : Addr} : destR a4 a6 0 0 none = (0, 0, none) := by
  simp [destR, um, is46, isUn, eq3]

theorem map6_iff (x0 x1 x2 x3 x4 x5 x6 x7 x8 x9 x10 x11 x12 x13 x14 x15 : Int) (h0 : 0 ≤ x0 ∧ x0 < 256) (h1 : 0 ≤ x1 ∧ x1 < 256) (h2 : 0 ≤ x2 ∧ x2 < 256) (h3 : 0 ≤ x3 ∧ x3 < 256) (h4 : 0 ≤ x4 ∧ x4 < 256) (h5 : 0 ≤ x5 ∧ x5 < 256) (h6 : 0 ≤ x6 ∧ x6 < 256) (h7 : 0 ≤ x7 ∧ x7 < 256) (h8 : 0 ≤ x8 ∧ x8 < 256) (h9 : 0 ≤ x9 ∧ x9 < 256) (h10 : 0 ≤ x10 ∧ x10 < 256) (h11 : 0 ≤ x11 ∧ x11 < 256) (h12 : 0 ≤ x12 ∧ x12 < 256) (h13 : 0 ≤ x13 ∧ x13 < 256) (h14 : 0 ≤ x14 ∧ x14 < 256) (h15 : 0 ≤ x15 ∧ x15 < 256) : map6 [x0, x1, x2, x3, x4, x5, x6, x7, x8, x9, x10, x11, x12, x13, x14, x15] = true ↔ (be x0 x1 x2 x3 x4 x5 x6 x7 = 0 ∧ be x8 x9 x10 x11 x12 x13 x14 x15 / 4294967296 = 65535) := by
  have e : map6 [x0, x1, x2, x3, x4, x5, x6, x7, x8, x9, x10, x11, x12, x13, x14, x15] = true ↔ ((x10 = 255 ∧ x11 = 255) ∧ x0 = 0 ∧ x1 = 0 ∧ x2 = 0 ∧ x3 = 0 ∧ x4 = 0 ∧ x5 = 0 ∧ x6 = 0 ∧ x7 = 0 ∧ x8 = 0 ∧ x9 = 0) := by
    simp [map6, m0, zeroTo]
  rw [e]
  unfold be
  omega

theorem zero_iff (x0 x1 x2 x3 x4 x5 x6 x7 x8 x9 x10 x11 x12 x13 x14 x15 : Int) (h0 : 0 ≤ x0 ∧ x0 < 256) (h1 : 0 ≤ x1 ∧ x1 < 256) (h2 : 0 ≤ x2 ∧ x2 < 256) (h3 : 0 ≤ x3 ∧ x3 < 256) (h4 : 0 ≤ x4 ∧ x4 < 256) (h5 : 0 ≤ x5 ∧ x5 < 256) (h6 : 0 ≤ x6 ∧ x6 < 256) (h7 : 0 ≤ x7 ∧ x7 < 256) (h8 : 0 ≤ x8 ∧ x8 < 256) (h9 : 0 ≤ x9 ∧ x9 < 256) (h10 : 0 ≤ x10 ∧ x10 < 256) (h11 : 0 ≤ x11 ∧ x11 < 256) (h12 : 0 ≤ x12 ∧ x12 < 256) (h13 : 0 ≤ x13 ∧ x13 < 256) (h14 : 0 ≤ x14 ∧ x14 < 256) (h15 : 0 ≤ x15 ∧ x15 < 256) : zeroTo [x0, x1, x2, x3, x4, x5, x6, x7, x8, x9, x10, x11, x12, x13, x14, x15] 16 = true ↔ (be x0 x1 x2 x3 x4 x5 x6 x7 = 0 ∧ be x8 x9 x10 x11 x12 x13 x14 x15 = 0) := by
  have e : zeroTo [x0, x1, x2, x3, x4, x5, x6, x7, x8, x9, x10, x11, x12, x13, x14, x15] 16 = true ↔ (x0 = 0 ∧ x1 = 0 ∧ x2 = 0 ∧ x3 = 0 ∧ x4 = 0 ∧ x5 = 0 ∧ x6 = 0 ∧ x7 = 0 ∧ x8 = 0 ∧ x9 = 0 ∧ x10 = 0 ∧ x11 = 0 ∧ x12 = 0 ∧ x13 = 0 ∧ x14 = 0 ∧ x15 = 0) := by
    simp [zeroTo]
  rw [e]
  unfold be
  omega

theorem destR_16 {a4 a6 : Addr} (ne : a4 ≠ a6) (x0 x1 x2 x3 x4 x5 x6 x7 x8 x9 x10 x11 x12 x13 x14 x15 : Int) (h0 : 0 ≤ x0 ∧ x0 < 256) (h1 : 0 ≤ x1 ∧ x1 < 256) (h2 : 0 ≤ x2 ∧ x2 < 256) (h3 : 0 ≤ x3 ∧ x3 < 256) (h4 : 0 ≤ x4 ∧ x4 < 256) (h5 : 0 ≤ x5 ∧ x5 < 256) (h6 : 0 ≤ x6 ∧ x6 < 256) (h7 : 0 ≤ x7 ∧ x7 < 256) (h8 : 0 ≤ x8 ∧ x8 < 256) (h9 : 0 ≤ x9 ∧ x9 < 256) (h10 : 0 ≤ x10 ∧ x10 < 256) (h11 : 0 ≤ x11 ∧ x11 < 256) (h12 : 0 ≤ x12 ∧ x12 < 256) (h13 : 0 ≤ x13 ∧ x13 < 256) (h14 : 0 ≤ x14 ∧ x14 < 256) (h15 : 0 ≤ x15 ∧ x15 < 256) :
    destR a4 a6 (be x0 x1 x2 x3 x4 x5 x6 x7) (be x8 x9 x10 x11 x12 x13 x14 x15) (some a6) = (hi6 [x0, x1, x2, x3, x4, x5, x6, x7, x8, x9, x10, x11, x12, x13, x14, x15], lo6 [x0, x1, x2, x3, x4, x5, x6, x7, x8, x9, x10, x11, x12, x13, x14, x15], z6 a4 a6 [x0, x1, x2, x3, x4, x5, x6, x7, x8, x9, x10, x11, x12, x13, x14, x15]) := by
  have hm := map6_iff x0 x1 x2 x3 x4 x5 x6 x7 x8 x9 x10 x11 x12 x13 x14 x15 h0 h1 h2 h3 h4 h5 h6 h7 h8 h9 h10 h11 h12 h13 h14 h15
  have hz := zero_iff x0 x1 x2 x3 x4 x5 x6 x7 x8 x9 x10 x11 x12 x13 x14 x15 h0 h1 h2 h3 h4 h5 h6 h7 h8 h9 h10 h11 h12 h13 h14 h15
  have e12 : lo4 ([x0, x1, x2, x3, x4, x5, x6, x7, x8, x9, x10, x11, x12, x13, x14, x15].getD 12 0) ([x0, x1, x2, x3, x4, x5, x6, x7, x8, x9, x10, x11, x12, x13, x14, x15].getD 13 0) ([x0, x1, x2, x3, x4, x5, x6, x7, x8, x9, x10, x11, x12, x13, x14, x15].getD 14 0) ([x0, x1, x2, x3, x4, x5, x6, x7, x8, x9, x10, x11, x12, x13, x14, x15].getD 15 0) = lo4 x12 x13 x14 x15 := rfl
  have ea : beL [x0, x1, x2, x3, x4, x5, x6, x7, x8, x9, x10, x11, x12, x13, x14, x15] 0 = be x0 x1 x2 x3 x4 x5 x6 x7 := rfl
  have eb : beL [x0, x1, x2, x3, x4, x5, x6, x7, x8, x9, x10, x11, x12, x13, x14, x15] 8 = be x8 x9 x10 x11 x12 x13 x14 x15 := rfl
  unfold hi6 lo6 z6
  rw [e12, ea, eb]
  by_cases k : be x0 x1 x2 x3 x4 x5 x6 x7 = 0 ∧ be x8 x9 x10 x11 x12 x13 x14 x15 / 4294967296 = 65535
  · have m : map6 [x0, x1, x2, x3, x4, x5, x6, x7, x8, x9, x10, x11, x12, x13, x14, x15] = true := hm.2 k
    simp only [m, if_true]
    rw [k.1]
    have hv : be x8 x9 x10 x11 x12 x13 x14 x15 = v4n x12 x13 x14 x15 := by
      have := k.2
      unfold be at this ⊢
      unfold v4n
      omega
    have hq := k.2
    rw [hv] at hq ⊢
    exact destR_v4 ne _ _ _ _ h12 h13 h14 h15 _ (um_map _ hq)
  · have m : map6 [x0, x1, x2, x3, x4, x5, x6, x7, x8, x9, x10, x11, x12, x13, x14, x15] = false := by
      rw [Bool.eq_false_iff]; exact fun e => k (hm.1 e)
    rw [destR_6 ne _ _ k]
    simp only [m, Bool.false_eq_true, if_false]
    by_cases q : be x0 x1 x2 x3 x4 x5 x6 x7 = 0 ∧ be x8 x9 x10 x11 x12 x13 x14 x15 = 0
    · have z : zeroTo [x0, x1, x2, x3, x4, x5, x6, x7, x8, x9, x10, x11, x12, x13, x14, x15] 16 = true := hz.2 q
      simp [q, z]
    · have z : zeroTo [x0, x1, x2, x3, x4, x5, x6, x7, x8, x9, x10, x11, x12, x13, x14, x15] 16 = false := by
        rw [Bool.eq_false_iff]; exact fun e => q (hz.1 e)
      simp [q, z]

theorem be_v4 (a b c d : Int) : be 0 0 255 255 a b c d = v4n a b c d := by unfold be v4n; omega
end Go.Proofs.YbulkavxkDoor
