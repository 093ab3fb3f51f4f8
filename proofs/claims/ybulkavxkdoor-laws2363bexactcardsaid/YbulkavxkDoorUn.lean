import Derived.Test.YbulkavxkDoorMk
namespace Go.Proofs.YbulkavxkDoor
open Go.RowKit
set_option linter.unusedVariables false
set_option linter.unusedSimpArgs false

/-- The three handles that are met. -/
def Z (a4 a6 : Addr) (z : Option Addr) : Prop := z = none ∨ z = some a4 ∨ z = some a6

/-- Two addresses are one. -/
def eq3 (hi lo : Int) (z : Option Addr) (hi' lo' : Int) (z' : Option Addr) : Bool := decide (hi = hi') && (decide (lo = lo') && decide (z = z'))

theorem G.eqz {a4 a6 : Addr} {w : World} (h : G a4 a6 w) {z z' : Option Addr} (hz : Z a4 a6 z) (hz' : Z a4 a6 z') (d : Nat) :
    (Op.equalIn (d + 1) 27 (.pointer z) (.pointer z')).run Ybad.prog w = .ok (decide (z = z')) w := by
  have ne := h.ne
  have ne' := Ne.symm h.ne
  rcases hz with rfl | rfl | rfl <;> rcases hz' with rfl | rfl | rfl <;> simp [eq_nil, nil_eq, eq_same, h.eq46, h.eq64, ne, ne']

theorem G.eq31 {a4 a6 : Addr} {w : World} (h : G a4 a6 w) {z z' : Option Addr} (hz : Z a4 a6 z) (hz' : Z a4 a6 z') (hi lo hi' lo' : Int) :
    (binOp .eql 31 (ad hi lo z) (ad hi' lo' z')).run Ybad.prog w = .ok (.bool (eq3 hi lo z hi' lo' z')) w := by
  have hp := h.eqz hz hz'
  by_cases e1 : hi = hi'
  · by_cases e2 : lo = lo'
    · subst e1 e2
      simp [go_sem, hp, eq3]
      by_cases e3 : z = z' <;> simp [e3, go_sem]
    · have d2 : (lo == lo') = false := by simpa using e2
      subst e1
      simp [go_sem, hp, eq3, d2, e2]
  · have d1 : (hi == hi') = false := by simpa using e1
    simp [go_sem, hp, eq3, d1, e1]

theorem G.eq34 {a4 a6 : Addr} {w : World} (h : G a4 a6 w) {z z' : Option Addr} (hz : Z a4 a6 z) (hz' : Z a4 a6 z') (hi lo p hi' lo' p' : Int) :
    (binOp .eql 34 (ap hi lo z p) (ap hi' lo' z' p')).run Ybad.prog w = .ok (.bool (eq3 hi lo z hi' lo' z' && decide (p = p'))) w := by
  have hp := h.eqz hz hz'
  by_cases e1 : hi = hi'
  · by_cases e2 : lo = lo'
    · subst e1 e2
      simp [go_sem, hp, eq3]
      by_cases e3 : z = z' <;> by_cases e4 : p = p' <;> simp [e3, e4, go_sem]
    · have d2 : (lo == lo') = false := by simpa using e2
      subst e1
      simp [go_sem, hp, eq3, d2, e2]
  · have d1 : (hi == hi') = false := by simpa using e1
    simp [go_sem, hp, eq3, d1, e1]

set_option maxHeartbeats 400000 in
theorem un4_any (a4 a6 : Addr) (w : World) (h : G a4 a6 w) :
    Calls Ybad.prog 31 #[] w fun e w' => e = .returned (ad 0 281470681743360 (some a4)) ∧ Below w.heap.size w w' := by
  have c := fun o => from4_any a4 a6 0 0 0 0 (w.alloc o) (h.below (bup (Below.refl _ _))) (by decide) (by decide) (by decide) (by decide) (by decide) (by decide) (by decide) (by decide)
  go_enter Ybad.func31, Ybad.ntmps31
  go_wp2_with (go_at_call 21; refine (c _).mono ?_; rintro e w' ⟨rfl, hb⟩; obtain ⟨k1, k2⟩ := box1 hb)
  exact bodyPost_ret (v := ad 0 281470681743360 (some a4)) (by simp [results, Ybad.results31, go_sem, k1, v4n]) rfl ⟨rfl, bset (bset (bset (bup hb) _ (by simp)) _ (by simp)) _ (by simp)⟩

set_option maxHeartbeats 400000 in
theorem un6_any (a4 a6 : Addr) (w : World) (h : G a4 a6 w) :
    Calls Ybad.prog 32 #[] w fun e w' => e = .returned (ad 0 0 (some a6)) ∧ Below w.heap.size w w' := by
  have g6 := fun o => (h.below (bup (o := o) (Below.refl _ _))).c6
  go_enter Ybad.func32, Ybad.ntmps32
  go_wp2
  exact bodyPost_ret (v := ad 0 0 (some a6)) (by simp [results, Ybad.results32, go_sem]) rfl ⟨rfl, bup (Below.refl _ _)⟩

set_option maxHeartbeats 400000 in
theorem loop6_any (a4 a6 : Addr) (w : World) (h : G a4 a6 w) :
    Calls Ybad.prog 27 #[] w fun e w' => e = .returned (ad 0 1 (some a6)) ∧ Below w.heap.size w w' := by
  have c := fun o => from16_any a4 a6 0 0 0 0 0 0 0 0 0 0 0 0 0 0 0 1 (w.alloc o) (h.below (bup (Below.refl _ _))) (by simp [Byte])
  go_enter Ybad.func27, Ybad.ntmps27
  go_wp2_with (go_at_call 22; refine (c _).mono ?_; rintro e w' ⟨rfl, hb⟩; obtain ⟨k1, k2⟩ := box1 hb)
  exact bodyPost_ret (v := ad 0 1 (some a6)) (by simp [results, Ybad.results27, go_sem, k1, be]) rfl ⟨rfl, bset (bset (bset (bup hb) _ (by simp)) _ (by simp)) _ (by simp)⟩

/-- Unspecified: 0.0.0.0 or :: -/
def isUn (a4 a6 : Addr) (hi lo : Int) (z : Option Addr) : Bool := eq3 hi lo z 0 281470681743360 (some a4) || eq3 hi lo z 0 0 (some a6)

theorem undrew {B : Nat} {w w' : World} (h : Below B w.drew w') : Below B w w' := ⟨h.os, h.tape, h.output, h.size, h.block⟩

set_option maxHeartbeats 4000000 in
theorem isUn_any (a4 a6 : Addr) (hi lo : Int) (z : Option Addr) (w : World) (h : G a4 a6 w) (hz : Z a4 a6 z) :
    Calls Ybad.prog 26 #[ad hi lo z] w fun e w' => e = .returned (.bool (isUn a4 a6 hi lo z)) ∧ Below w.heap.size w w' := by
  have z4 : Z a4 a6 (some a4) := Or.inr (Or.inl rfl)
  have z6 : Z a4 a6 (some a6) := Or.inr (Or.inr rfl)
  have HG : Hid (∀ w', Below w.heap.size w w' → G a4 a6 w') := fun w' hb => h.below hb
  have c4 : ∀ w1, Below w.heap.size w w1 → _ := fun w1 (hb : Below w.heap.size w w1) => un4_any a4 a6 w1 (h.below hb)
  have c6 : ∀ w1, Below w.heap.size w w1 → _ := fun w1 (hb : Below w.heap.size w w1) => un6_any a4 a6 w1 (h.below hb)
  have n64 : ¬ some a6 = some a4 := fun e => h.ne (Option.some.inj e).symm
  clear h
  by_cases e1 : hi = 0
  · subst e1
    by_cases e2 : lo = 281470681743360
    · subst e2
      by_cases e3 : z = some a4
      · subst e3
        go_enter Ybad.func26, Ybad.ntmps26
        go_wp2_with fail
        go_region_with (go_at_call 31; refine (c4 _ ?_).mono ?_; exact (bup (Below.refl _ _)).drew; rintro e w1 ⟨rfl, hb1⟩; have hb := undrew hb1; clear hb1; obtain ⟨k1, k2⟩ := box1 hb; have E := (HG.out _ (bup hb)).eqz hz z4)
        all_goals
          go_wp2
          go_ret
          exact ⟨ret_bool (by simp [isUn, eq3]), bup hb⟩
      · have d3 : decide (z = some a4) = false := by simpa using e3
        go_enter Ybad.func26, Ybad.ntmps26
        go_wp2_with fail
        go_region_with (first | (go_at_call 31; refine (c4 _ ?_).mono ?_; exact (bup (Below.refl _ _)).drew; rintro e w1 ⟨rfl, hb1⟩; have hb := undrew hb1; clear hb1; obtain ⟨k1, k2⟩ := box1 hb; have E := (HG.out _ (bup hb)).eqz hz z4) | (go_at_call 32; refine (c6 _ ?_).mono ?_; exact bup hb; rintro e w2 ⟨rfl, hb2⟩; have hb3 := (bup hb).trans (hb2.mono (bup hb).size); have E2 := (HG.out _ hb3).eqz hz z6; have k3 := fun j => (hb2.cell (p := ⟨w.heap.size, j, none⟩) (Nat.lt_of_lt_of_le (by simp) hb.size)).trans (k1 j)))
        all_goals
          go_wp2
          go_ret
          exact ⟨ret_bool (by simp [isUn, eq3, e3]), hb3⟩
    · by_cases e4 : lo = 0
      · subst e4
        by_cases e3 : z = some a6
        · subst e3
          go_enter Ybad.func26, Ybad.ntmps26
          go_wp2_with fail
          go_region_with (first | (go_at_call 31; refine (c4 _ ?_).mono ?_; exact (bup (Below.refl _ _)).drew; rintro e w1 ⟨rfl, hb1⟩; have hb := undrew hb1; clear hb1; obtain ⟨k1, k2⟩ := box1 hb; have E := (HG.out _ (bup hb)).eqz hz z4) | (go_at_call 32; refine (c6 _ ?_).mono ?_; exact bup hb; rintro e w2 ⟨rfl, hb2⟩; have hb3 := (bup hb).trans (hb2.mono (bup hb).size); have E2 := (HG.out _ hb3).eqz hz z6; have k3 := fun j => (hb2.cell (p := ⟨w.heap.size, j, none⟩) (Nat.lt_of_lt_of_le (by simp) hb.size)).trans (k1 j)))
          all_goals
            go_wp2
            go_ret
            exact ⟨ret_bool (by simp [isUn, eq3]), hb3⟩
        · have d3 : decide (z = some a6) = false := by simpa using e3
          go_enter Ybad.func26, Ybad.ntmps26
          go_wp2_with fail
          go_region_with (first | (go_at_call 31; refine (c4 _ ?_).mono ?_; exact (bup (Below.refl _ _)).drew; rintro e w1 ⟨rfl, hb1⟩; have hb := undrew hb1; clear hb1; obtain ⟨k1, k2⟩ := box1 hb; have E := (HG.out _ (bup hb)).eqz hz z4) | (go_at_call 32; refine (c6 _ ?_).mono ?_; exact bup hb; rintro e w2 ⟨rfl, hb2⟩; have hb3 := (bup hb).trans (hb2.mono (bup hb).size); have E2 := (HG.out _ hb3).eqz hz z6; have k3 := fun j => (hb2.cell (p := ⟨w.heap.size, j, none⟩) (Nat.lt_of_lt_of_le (by simp) hb.size)).trans (k1 j)))
          all_goals
            go_wp2
            go_ret
            exact ⟨ret_bool (by simp [isUn, eq3, e3]), hb3⟩
      · have d2 : (lo == 281470681743360) = false := by simpa using e2
        have d4 : (lo == 0) = false := by simpa using e4
        go_enter Ybad.func26, Ybad.ntmps26
        go_wp2_with fail
        go_region_with (first | (go_at_call 31; refine (c4 _ ?_).mono ?_; exact (bup (Below.refl _ _)).drew; rintro e w1 ⟨rfl, hb1⟩; have hb := undrew hb1; clear hb1; obtain ⟨k1, k2⟩ := box1 hb; have E := (HG.out _ (bup hb)).eqz hz z4) | (go_at_call 32; refine (c6 _ ?_).mono ?_; exact bup hb; rintro e w2 ⟨rfl, hb2⟩; have hb3 := (bup hb).trans (hb2.mono (bup hb).size); have E2 := (HG.out _ hb3).eqz hz z6; have k3 := fun j => (hb2.cell (p := ⟨w.heap.size, j, none⟩) (Nat.lt_of_lt_of_le (by simp) hb.size)).trans (k1 j)))
        all_goals
          go_wp2
          go_ret
          exact ⟨ret_bool (by simp [isUn, eq3, e2, e4]), hb3⟩
  · have d1 : (hi == 0) = false := by simpa using e1
    go_enter Ybad.func26, Ybad.ntmps26
    go_wp2_with fail
    go_region_with (first | (go_at_call 31; refine (c4 _ ?_).mono ?_; exact (bup (Below.refl _ _)).drew; rintro e w1 ⟨rfl, hb1⟩; have hb := undrew hb1; clear hb1; obtain ⟨k1, k2⟩ := box1 hb; have E := (HG.out _ (bup hb)).eqz hz z4) | (go_at_call 32; refine (c6 _ ?_).mono ?_; exact bup hb; rintro e w2 ⟨rfl, hb2⟩; have hb3 := (bup hb).trans (hb2.mono (bup hb).size); have E2 := (HG.out _ hb3).eqz hz z6; have k3 := fun j => (hb2.cell (p := ⟨w.heap.size, j, none⟩) (Nat.lt_of_lt_of_le (by simp) hb.size)).trans (k1 j)))
    all_goals
      go_wp2
      go_ret
      exact ⟨ret_bool (by simp [isUn, eq3, e1]), hb3⟩
end Go.Proofs.YbulkavxkDoor
