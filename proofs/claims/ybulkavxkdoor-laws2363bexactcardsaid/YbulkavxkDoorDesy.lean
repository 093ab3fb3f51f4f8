import Derived.Test.YbulkavxkDoorDesu
namespace Go.Proofs.YbulkavxkDoor
open Go.RowKit
set_option linter.unusedVariables false
set_option linter.unusedSimpArgs false

/-- Three rows of the call's own: at b, b + 1 and c. -/
structure Three (b c : Nat) (A B C : Array Value) (W : World) : Prop where
  cA : ∀ j, W.cell? ⟨b, j, none⟩ = A[j]?
  cB : ∀ j, W.cell? ⟨b + 1, j, none⟩ = B[j]?
  cC : ∀ j, W.cell? ⟨c, j, none⟩ = C[j]?
  fB : ∀ j, W.frozen? ⟨b + 1, j, none⟩ = false
  fC : ∀ j, W.frozen? ⟨c, j, none⟩ = false
  sz : b + 1 < W.heap.size
  sc : c < W.heap.size
theorem Three.below {b c : Nat} {A B C : Array Value} {W w' : World} (h : Three b c A B C W) (hb : Below W.heap.size W w') : Three b c A B C w' := by
  have h1 := h.sz
  have h2 := h.sc
  exact ⟨fun j => (hb.cell (p := ⟨b, j, none⟩) (by show b < _; omega)).trans (h.cA j), fun j => (hb.cell (p := ⟨b + 1, j, none⟩) h1).trans (h.cB j), fun j => (hb.cell (p := ⟨c, j, none⟩) h2).trans (h.cC j),
    fun j => (hb.frozen (p := ⟨b + 1, j, none⟩) h1).trans (h.fB j), fun j => (hb.frozen (p := ⟨c, j, none⟩) h2).trans (h.fC j), ge_size hb h1, ge_size hb h2⟩
theorem Three.drew {b c : Nat} {A B C : Array Value} {W : World} (h : Three b c A B C W) : Three b c A B C W.drew := ⟨h.cA, h.cB, h.cC, h.fB, h.fC, h.sz, h.sc⟩
theorem Three.alloc {b : Nat} {A B : Array Value} {W : World} (cs : Array Value) (t : TypeId) (cA : ∀ j, W.cell? ⟨b, j, none⟩ = A[j]?) (cB : ∀ j, W.cell? ⟨b + 1, j, none⟩ = B[j]?) (fB : ∀ j, W.frozen? ⟨b + 1, j, none⟩ = false) (sz : b + 1 < W.heap.size) :
    Three b W.heap.size A B cs (W.alloc (.cells cs t)) := by
  have hb : Below W.heap.size W (W.alloc (.cells cs t)) := (Below.refl _ _).alloc (Nat.le_refl _) _
  have k := box1 (w := W) (cs := cs) (t := t) (Below.refl _ _)
  exact ⟨fun j => (hb.cell (p := ⟨b, j, none⟩) (by show b < _; omega)).trans (cA j), fun j => (hb.cell (p := ⟨b + 1, j, none⟩) sz).trans (cB j), k.1, fun j => (hb.frozen (p := ⟨b + 1, j, none⟩) sz).trans (fB j), k.2, ge_size hb sz, by simp⟩

set_option maxHeartbeats 2000000 in
theorem dest_yes6 (a4 a6 : Addr) (hi lo p : Int) (z : Option Addr) (w : World) (h : G a4 a6 w) (hz : Z a4 a6 z) (hl : 0 ≤ lo) (hl2 : lo < 18446744073709551616) (hu : isUn a4 a6 hi lo (um a4 a6 hi lo z) = true) (h4 : decide (um a4 a6 hi lo z = some a4) = false) :
    Calls Ybad.prog 13 #[ap hi lo z p] w fun e w' => e = .returned (ap 0 1 (some a6) p) ∧ Below w.heap.size w w' := by
  have c16 : ∀ w1, Below w.heap.size w w1 → _ := fun w1 (hb : Below w.heap.size w w1) => unmap_any a4 a6 hi lo p z w1 (h.below hb) hz hl hl2
  have c26 : ∀ w1, Below w.heap.size w w1 → _ := fun w1 (hb : Below w.heap.size w w1) => isUn_any a4 a6 hi lo (um a4 a6 hi lo z) w1 (h.below hb) (um_Z hz)
  have c28 : ∀ w1, Below w.heap.size w w1 → _ := fun w1 (hb : Below w.heap.size w w1) => is4_any a4 a6 hi lo (um a4 a6 hi lo z) w1 (h.below hb) (um_Z hz)
  have c27 : ∀ w1, Below w.heap.size w w1 → _ := fun w1 (hb : Below w.heap.size w w1) => loop6_any a4 a6 w1 (h.below hb)
  have c25 := fun w1 => addr_any hi lo (um a4 a6 hi lo z) p w1
  have c15 := fun w1 => port_any hi lo (um a4 a6 hi lo z) p w1
  have c14 := fun w1 => from_any 0 1 (some a6) p w1
  clear h hz hl hl2
  generalize um a4 a6 hi lo z = z' at *
  go_enter Ybad.func13, Ybad.ntmps13
  go_wp2_with fail
  refine (c16 _ (bup2 (Below.refl _ _))).mono ?_
  rintro e w1 ⟨rfl, hb⟩
  obtain ⟨⟨k1, k2⟩, k3, k4⟩ := box2 hb
  have s1 : w.heap.size + 1 < w1.heap.size := ge_size hb (by simp)
  replace hb := bset (bset (bset (bset (bup2 hb) (j := 0) (.int .u64 hi) (Nat.le_refl _)) (j := 1) (.int .u64 lo) (Nat.le_refl _)) (j := 2) (.pointer z') (Nat.le_refl _)) (j := 3) (.int .u16 p) (Nat.le_refl _)
  go_wp2_with fail
  refine (c25 _).mono ?_
  rintro e w2 ⟨rfl, hb2⟩
  obtain ⟨⟨m1, m2⟩, ⟨m3, m4⟩, s2⟩ := keep2 hb2 (by simpa using s1)
  replace hb := hb.trans (hb2.mono hb.size)
  clear hb2
  go_wp2_with fail
  refine (c26 _ hb).mono ?_
  rintro e w3 ⟨rfl, hb3⟩
  obtain ⟨⟨n1, n2⟩, ⟨n3, n4⟩, s3⟩ := keep2 hb3 s2
  replace hb := hb.trans (hb3.mono hb.size)
  clear hb3
  go_wp2_with fail
  refine (c27 _ hb).mono ?_
  rintro e w4 ⟨rfl, hb4⟩
  obtain ⟨⟨p1, p2⟩, ⟨p3, p4⟩, s4⟩ := keep2 hb4 s3
  replace hb := hb.trans (hb4.mono hb.size)
  have s4' : w.heap.size < w4.heap.size := by omega
  clear hb4
  -- what the two boxes hold, said of w4
  have q1 : ∀ j, w4.cell? ⟨w.heap.size, j, none⟩ = #[Value.int IntKind.u64 hi, Value.int IntKind.u64 lo, Value.pointer z', Value.int IntKind.u16 p][j]? := by
    intro j
    rw [p1, n1, m1]
    rcases j with _ | _ | _ | _ | j <;> simp [go_sem, k1]
  have q3 : ∀ j, w4.cell? ⟨w.heap.size + 1, j, none⟩ = #[Value.int IntKind.u64 0, Value.int IntKind.u64 0, Value.pointer none, Value.int IntKind.u16 0][j]? := by
    intro j
    rw [p3, n3, m3]
    simp [go_sem, k3]
  have q2 : ∀ j, w4.frozen? ⟨w.heap.size, j, none⟩ = false := by
    intro j
    rw [p2, n2, m2]
    simp [go_sem, k2]
  have q4 : ∀ j, w4.frozen? ⟨w.heap.size + 1, j, none⟩ = false := by
    intro j
    rw [p4, n4, m4]
    simp [go_sem, k4]
  clear p1 p2 p3 p4 n1 n2 n3 n4 m1 m2 m3 m4 k1 k2 k3 k4 s1 s2 s3
  have T := Three.alloc #[Value.int IntKind.u64 0, Value.int IntKind.u64 1, Value.pointer (some a6)] 31 q1 q3 q4 s4
  replace hb := hb.alloc (Nat.le_of_lt s4') (.cells #[Value.int IntKind.u64 0, Value.int IntKind.u64 1, Value.pointer (some a6)] 31)
  go_wp2_with fail
  refine (c25 _).mono ?_
  rintro e w5 ⟨rfl, hb5⟩
  replace T := T.below hb5
  replace hb := hb.trans (hb5.mono hb.size)
  clear hb5 q1 q2 q3 q4 s4 s4'
  go_wp2_with fail
  refine (c28 _ hb).mono ?_
  rintro e w6 ⟨rfl, hb6⟩
  replace T := T.below hb6
  replace hb := hb.trans (hb6.mono hb.size)
  clear hb6
  have q1 := T.cA
  have q2 := T.cB
  have q3 := T.cC
  have q4 := T.fB
  go_wp2_with fail
  replace T := T.drew
  replace hb := hb.drew
  generalize w4.heap.size = c4 at *
  clear c16 c26 c28 c27 c25
  go_region_with (first
    | (go_at_call 15; refine (c15 _).mono ?_; rintro e w7 ⟨rfl, hb7⟩; replace T := T.below hb7; replace hb := hb.trans (hb7.mono hb.size); clear hb7; have r1 := T.cA; have r2 := T.cB; have r3 := T.cC; have r4 := T.fB)
    | (go_at_call 14; refine (c14 _).mono ?_; rintro e w7 ⟨rfl, hb7⟩; replace T := T.below hb7; replace hb := hb.trans (hb7.mono hb.size); clear hb7; have r1 := T.cA; have r2 := T.cB; have r3 := T.cC; have r4 := T.fB))
  all_goals
    go_wp2
    exact bodyPost_ret (v := ap 0 1 (some a6) p) (by simp [results, Ybad.results13, go_sem, r2]) rfl ⟨rfl, bset (bset (bset (bset hb _ (by simp)) _ (by simp)) _ (by simp)) _ (by simp)⟩

set_option maxHeartbeats 2000000 in
theorem dest_yes4 (a4 a6 : Addr) (hi lo p : Int) (z : Option Addr) (w : World) (h : G a4 a6 w) (hz : Z a4 a6 z) (hl : 0 ≤ lo) (hl2 : lo < 18446744073709551616) (hu : isUn a4 a6 hi lo (um a4 a6 hi lo z) = true) (h4 : decide (um a4 a6 hi lo z = some a4) = true) :
    Calls Ybad.prog 13 #[ap hi lo z p] w fun e w' => e = .returned (ap 0 281472812449793 (some a4) p) ∧ Below w.heap.size w w' := by
  have c16 : ∀ w1, Below w.heap.size w w1 → _ := fun w1 (hb : Below w.heap.size w w1) => unmap_any a4 a6 hi lo p z w1 (h.below hb) hz hl hl2
  have c26 : ∀ w1, Below w.heap.size w w1 → _ := fun w1 (hb : Below w.heap.size w w1) => isUn_any a4 a6 hi lo (um a4 a6 hi lo z) w1 (h.below hb) (um_Z hz)
  have c28 : ∀ w1, Below w.heap.size w w1 → _ := fun w1 (hb : Below w.heap.size w w1) => is4_any a4 a6 hi lo (um a4 a6 hi lo z) w1 (h.below hb) (um_Z hz)
  have c27 : ∀ w1, Below w.heap.size w w1 → _ := fun w1 (hb : Below w.heap.size w w1) => loop6_any a4 a6 w1 (h.below hb)
  have c21 : ∀ w1, Below w.heap.size w w1 → _ := fun w1 (hb : Below w.heap.size w w1) => from4_any a4 a6 127 0 0 1 w1 (h.below hb) (by decide) (by decide) (by decide) (by decide) (by decide) (by decide) (by decide) (by decide)
  rw [show v4n 127 0 0 1 = 281472812449793 from rfl] at c21
  have c25 := fun w1 => addr_any hi lo (um a4 a6 hi lo z) p w1
  have c15 := fun w1 => port_any hi lo (um a4 a6 hi lo z) p w1
  have c14 := fun w1 => from_any 0 281472812449793 (some a4) p w1
  clear h hz hl hl2
  generalize um a4 a6 hi lo z = z' at *
  go_enter Ybad.func13, Ybad.ntmps13
  go_wp2_with fail
  refine (c16 _ (bup2 (Below.refl _ _))).mono ?_
  rintro e w1 ⟨rfl, hb⟩
  obtain ⟨⟨k1, k2⟩, k3, k4⟩ := box2 hb
  have s1 : w.heap.size + 1 < w1.heap.size := ge_size hb (by simp)
  replace hb := bset (bset (bset (bset (bup2 hb) (j := 0) (.int .u64 hi) (Nat.le_refl _)) (j := 1) (.int .u64 lo) (Nat.le_refl _)) (j := 2) (.pointer z') (Nat.le_refl _)) (j := 3) (.int .u16 p) (Nat.le_refl _)
  go_wp2_with fail
  refine (c25 _).mono ?_
  rintro e w2 ⟨rfl, hb2⟩
  obtain ⟨⟨m1, m2⟩, ⟨m3, m4⟩, s2⟩ := keep2 hb2 (by simpa using s1)
  replace hb := hb.trans (hb2.mono hb.size)
  clear hb2
  go_wp2_with fail
  refine (c26 _ hb).mono ?_
  rintro e w3 ⟨rfl, hb3⟩
  obtain ⟨⟨n1, n2⟩, ⟨n3, n4⟩, s3⟩ := keep2 hb3 s2
  replace hb := hb.trans (hb3.mono hb.size)
  clear hb3
  go_wp2_with fail
  refine (c27 _ hb).mono ?_
  rintro e w4 ⟨rfl, hb4⟩
  obtain ⟨⟨p1, p2⟩, ⟨p3, p4⟩, s4⟩ := keep2 hb4 s3
  replace hb := hb.trans (hb4.mono hb.size)
  have s4' : w.heap.size < w4.heap.size := by omega
  clear hb4
  -- what the two boxes hold, said of w4
  have q1 : ∀ j, w4.cell? ⟨w.heap.size, j, none⟩ = #[Value.int IntKind.u64 hi, Value.int IntKind.u64 lo, Value.pointer z', Value.int IntKind.u16 p][j]? := by
    intro j
    rw [p1, n1, m1]
    rcases j with _ | _ | _ | _ | j <;> simp [go_sem, k1]
  have q3 : ∀ j, w4.cell? ⟨w.heap.size + 1, j, none⟩ = #[Value.int IntKind.u64 0, Value.int IntKind.u64 0, Value.pointer none, Value.int IntKind.u16 0][j]? := by
    intro j
    rw [p3, n3, m3]
    simp [go_sem, k3]
  have q2 : ∀ j, w4.frozen? ⟨w.heap.size, j, none⟩ = false := by
    intro j
    rw [p2, n2, m2]
    simp [go_sem, k2]
  have q4 : ∀ j, w4.frozen? ⟨w.heap.size + 1, j, none⟩ = false := by
    intro j
    rw [p4, n4, m4]
    simp [go_sem, k4]
  clear p1 p2 p3 p4 n1 n2 n3 n4 m1 m2 m3 m4 k1 k2 k3 k4 s1 s2 s3
  have T := Three.alloc #[Value.int IntKind.u64 0, Value.int IntKind.u64 1, Value.pointer (some a6)] 31 q1 q3 q4 s4
  replace hb := hb.alloc (Nat.le_of_lt s4') (.cells #[Value.int IntKind.u64 0, Value.int IntKind.u64 1, Value.pointer (some a6)] 31)
  go_wp2_with fail
  refine (c25 _).mono ?_
  rintro e w5 ⟨rfl, hb5⟩
  replace T := T.below hb5
  replace hb := hb.trans (hb5.mono hb.size)
  clear hb5 q1 q2 q3 q4
  go_wp2_with fail
  refine (c28 _ hb).mono ?_
  rintro e w6 ⟨rfl, hb6⟩
  replace T := T.below hb6
  replace hb := hb.trans (hb6.mono hb.size)
  clear hb6
  go_wp2_with fail
  refine (c21 _ hb).mono ?_
  rintro e w7 ⟨rfl, hb7⟩
  replace T := T.below hb7
  replace hb := hb.trans (hb7.mono hb.size)
  clear hb7
  have q1 := T.cA
  have q2 := T.cB
  have q3 := T.cC
  have q4 := T.fB
  have q5 := T.fC
  have s5 : w.heap.size ≤ w4.heap.size := by omega
  have n1 : ¬ w4.heap.size = w.heap.size := by omega
  have n2 : ¬ w4.heap.size = w.heap.size + 1 := by omega
  clear s4 s4'
  generalize w4.heap.size = c4 at *
  go_wp2_with fail
  have T2 : Three w.heap.size c4 #[Value.int IntKind.u64 hi, Value.int IntKind.u64 lo, Value.pointer z', Value.int IntKind.u16 p] #[Value.int IntKind.u64 0, Value.int IntKind.u64 0, Value.pointer none, Value.int IntKind.u16 0] #[Value.int IntKind.u64 0, Value.int IntKind.u64 281472812449793, Value.pointer (some a4)]
      (((w7.setCell ⟨c4, 0, none⟩ (.int .u64 0)).setCell ⟨c4, 1, none⟩ (.int .u64 281472812449793)).setCell ⟨c4, 2, none⟩ (.pointer (some a4))).drew := by
    have h1 := T.sz
    have h2 := T.sc
    refine Three.drew ⟨fun j => ?_, fun j => ?_, fun j => ?_, fun j => ?_, fun j => ?_, by simpa using h1, by simpa using h2⟩
    · simp [go_sem, n1, q1]
    · simp [go_sem, n2, q2]
    · rcases j with _ | _ | _ | j <;> simp [go_sem, q3]
    · simp [go_sem, q4]
    · simp [go_sem, q5]
  replace hb := (bset (bset (bset hb (k := c4) (j := 0) (.int .u64 0) s5) (k := c4) (j := 1) (.int .u64 281472812449793) s5) (k := c4) (j := 2) (.pointer (some a4)) s5).drew
  clear c16 c26 c28 c27 c25 c21
  go_region_with (first
    | (go_at_call 15; refine (c15 _).mono ?_; rintro e w8 ⟨rfl, hb8⟩; replace T2 := T2.below hb8; replace hb := hb.trans (hb8.mono hb.size); clear hb8; have r1 := T2.cA; have r2 := T2.cB; have r3 := T2.cC; have r4 := T2.fB)
    | (go_at_call 14; refine (c14 _).mono ?_; rintro e w8 ⟨rfl, hb8⟩; replace T2 := T2.below hb8; replace hb := hb.trans (hb8.mono hb.size); clear hb8; have r1 := T2.cA; have r2 := T2.cB; have r3 := T2.cC; have r4 := T2.fB))
  all_goals
    go_wp2
    exact bodyPost_ret (v := ap 0 281472812449793 (some a4) p) (by simp [results, Ybad.results13, go_sem, r2]) rfl ⟨rfl, bset (bset (bset (bset hb _ (by simp)) _ (by simp)) _ (by simp)) _ (by simp)⟩
end Go.Proofs.YbulkavxkDoor
