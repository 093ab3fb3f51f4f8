import Derived.Test.YbulkavxkDoorDest
namespace Go.Proofs.YbulkavxkDoor
open Go.RowKit
set_option linter.unusedVariables false
set_option linter.unusedSimpArgs false

theorem ge_size {w w' : World} {n : Nat} (hb : Below w.heap.size w w') (h : n < w.heap.size) : n < w'.heap.size := Nat.lt_of_lt_of_le h hb.size

/-- Two boxes of the call's own behind a callee that ends in 'Below'. -/
theorem keep2 {W w' : World} {b : Nat} (hb : Below W.heap.size W w') (h : b + 1 < W.heap.size) :
    ((∀ j, w'.cell? ⟨b, j, none⟩ = W.cell? ⟨b, j, none⟩) ∧ (∀ j, w'.frozen? ⟨b, j, none⟩ = W.frozen? ⟨b, j, none⟩)) ∧ ((∀ j, w'.cell? ⟨b + 1, j, none⟩ = W.cell? ⟨b + 1, j, none⟩) ∧ (∀ j, w'.frozen? ⟨b + 1, j, none⟩ = W.frozen? ⟨b + 1, j, none⟩)) ∧ b + 1 < w'.heap.size :=
  ⟨⟨fun j => hb.cell (p := ⟨b, j, none⟩) (by show b < _; omega), fun j => hb.frozen (p := ⟨b, j, none⟩) (by show b < _; omega)⟩, ⟨fun j => hb.cell (p := ⟨b + 1, j, none⟩) h, fun j => hb.frozen (p := ⟨b + 1, j, none⟩) h⟩, ge_size hb h⟩

set_option maxHeartbeats 1000000 in
theorem dest_no (a4 a6 : Addr) (hi lo p : Int) (z : Option Addr) (w : World) (h : G a4 a6 w) (hz : Z a4 a6 z) (hl : 0 ≤ lo) (hl2 : lo < 18446744073709551616) (hu : isUn a4 a6 hi lo (um a4 a6 hi lo z) = false) :
    Calls Ybad.prog 13 #[ap hi lo z p] w fun e w' => e = .returned (ap hi lo (um a4 a6 hi lo z) p) ∧ Below w.heap.size w w' := by
  have c16 : ∀ w1, Below w.heap.size w w1 → _ := fun w1 (hb : Below w.heap.size w w1) => unmap_any a4 a6 hi lo p z w1 (h.below hb) hz hl hl2
  have c26 : ∀ w1, Below w.heap.size w w1 → _ := fun w1 (hb : Below w.heap.size w w1) => isUn_any a4 a6 hi lo (um a4 a6 hi lo z) w1 (h.below hb) (um_Z hz)
  have c25 := fun w1 => addr_any hi lo (um a4 a6 hi lo z) p w1
  clear h hz hl hl2
  generalize um a4 a6 hi lo z = z' at *
  go_enter Ybad.func13, Ybad.ntmps13
  go_wp2_with (first
    | (go_at_call 16; refine (c16 _ (bup2 (Below.refl _ _))).mono ?_; rintro e w1 ⟨rfl, hb⟩; obtain ⟨⟨k1, k2⟩, k3, k4⟩ := box2 hb; have s1 : w.heap.size + 1 < w1.heap.size := ge_size hb (by simp))
    | (go_at_call 25; refine (c25 _).mono ?_; rintro e w2 ⟨rfl, hb2⟩; obtain ⟨⟨m1, m2⟩, ⟨m3, m4⟩, s2⟩ := keep2 hb2 (by simpa using s1); have HB := (bset (bset (bset (bset (bup2 hb) _ (Nat.le_refl _)) _ (Nat.le_refl _)) _ (Nat.le_refl _)) _ (Nat.le_refl _)).trans (hb2.mono (by simp; omega)))
    | (go_at_call 26; refine (c26 _ HB).mono ?_; rintro e w3 ⟨rfl, hb3⟩; obtain ⟨⟨n1, n2⟩, ⟨n3, n4⟩, s3⟩ := keep2 hb3 s2; have HB3 := HB.trans (hb3.mono HB.size)))
  exact bodyPost_ret (v := ap hi lo z' p) (by simp [results, Ybad.results13, go_sem, n3, m3, k3]) rfl ⟨rfl, bset (bset (bset (bset HB3 _ (by simp)) _ (by simp)) _ (by simp)) _ (by simp)⟩
end Go.Proofs.YbulkavxkDoor
