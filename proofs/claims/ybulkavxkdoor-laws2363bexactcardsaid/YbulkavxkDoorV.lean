import Derived.Test.YbulkavxkDoorMk
import Derived.LoopTactic
namespace Go.Proofs.YbulkavxkDoor
open Go.RowKit
set_option linter.unusedVariables false
set_option linter.unusedSimpArgs false

/-- 0.0.0.0 becomes 127.0.0.1. -/
def lo4 (a b c d : Int) : Int := if a = 0 ∧ b = 0 ∧ c = 0 ∧ d = 0 then 281472812449793 else v4n a b c d

set_option maxHeartbeats 1000000 in
theorem v4_any (a4 a6 : Addr) (a b c d : Int) (w : World) (h : G a4 a6 w) (ha : Byte a) (hb : Byte b) (hc : Byte c) (hd : Byte d) :
    Calls Ybad.prog 23 #[.agg #[.int .u8 a, .int .u8 b, .int .u8 c, .int .u8 d]] w fun e w' => e = .returned (ad 0 (lo4 a b c d) (some a4)) ∧ Below w.heap.size w w' := by
  have c0 := fun o o2 => from4_any a4 a6 127 0 0 1 ((w.alloc o).alloc o2) (h.below (bup2 (Below.refl _ _))) (by decide) (by decide) (by decide) (by decide) (by decide) (by decide) (by decide) (by decide)
  rw [show v4n 127 0 0 1 = 281472812449793 from rfl] at c0
  have c1 := fun o o2 => from4_any a4 a6 a b c d ((w.alloc o).alloc o2) (h.below (bup2 (Below.refl _ _))) ha.1 ha.2 hb.1 hb.2 hc.1 hc.2 hd.1 hd.2
  clear ha hb hc hd h
  by_cases e : a = 0 ∧ b = 0 ∧ c = 0 ∧ d = 0
  · rw [show lo4 a b c d = 281472812449793 by simp [lo4, e]]
    obtain ⟨rfl, rfl, rfl, rfl⟩ := e
    clear c1
    go_enter Ybad.func23, Ybad.ntmps23
    go_wp2_with (go_at_call 21; refine (c0 _ _).mono ?_; rintro e w' ⟨rfl, hb⟩; obtain ⟨⟨k1, k2⟩, k3, k4⟩ := box2 hb)
    exact bodyPost_ret (v := ad 0 281472812449793 (some a4)) (by simp [results, Ybad.results23, go_sem, k3]) rfl ⟨rfl, bset (bset (bset (bup2 hb) _ (by simp)) _ (by simp)) _ (by simp)⟩
  · rw [show lo4 a b c d = v4n a b c d by simp [lo4, e]]
    clear c0
    generalize v4n a b c d = v at *
    by_cases e1 : a = 0
    · subst e1
      by_cases e2 : b = 0
      · subst e2
        by_cases e3 : c = 0
        · subst e3
          have d4 : (d == 0) = false := by simpa using e
          clear e
          go_enter Ybad.func23, Ybad.ntmps23
          go_wp2_with (go_at_call 21; refine (c1 _ _).mono ?_; rintro e w' ⟨rfl, hb⟩; obtain ⟨⟨k1, k2⟩, k3, k4⟩ := box2 hb)
          exact bodyPost_ret (v := ad 0 v (some a4)) (by simp [results, Ybad.results23, go_sem, k3]) rfl ⟨rfl, bset (bset (bset (bup2 hb) _ (by simp)) _ (by simp)) _ (by simp)⟩
        · have d3 : (c == 0) = false := by simpa using e3
          clear e e3
          go_enter Ybad.func23, Ybad.ntmps23
          go_wp2_with (go_at_call 21; refine (c1 _ _).mono ?_; rintro e w' ⟨rfl, hb⟩; obtain ⟨⟨k1, k2⟩, k3, k4⟩ := box2 hb)
          exact bodyPost_ret (v := ad 0 v (some a4)) (by simp [results, Ybad.results23, go_sem, k3]) rfl ⟨rfl, bset (bset (bset (bup2 hb) _ (by simp)) _ (by simp)) _ (by simp)⟩
      · have d2 : (b == 0) = false := by simpa using e2
        clear e e2
        go_enter Ybad.func23, Ybad.ntmps23
        go_wp2_with (go_at_call 21; refine (c1 _ _).mono ?_; rintro e w' ⟨rfl, hb⟩; obtain ⟨⟨k1, k2⟩, k3, k4⟩ := box2 hb)
        exact bodyPost_ret (v := ad 0 v (some a4)) (by simp [results, Ybad.results23, go_sem, k3]) rfl ⟨rfl, bset (bset (bset (bup2 hb) _ (by simp)) _ (by simp)) _ (by simp)⟩
    · have d1 : (a == 0) = false := by simpa using e1
      clear e e1
      go_enter Ybad.func23, Ybad.ntmps23
      go_wp2_with (go_at_call 21; refine (c1 _ _).mono ?_; rintro e w' ⟨rfl, hb⟩; obtain ⟨⟨k1, k2⟩, k3, k4⟩ := box2 hb)
      exact bodyPost_ret (v := ad 0 v (some a4)) (by simp [results, Ybad.results23, go_sem, k3]) rfl ⟨rfl, bset (bset (bset (bup2 hb) _ (by simp)) _ (by simp)) _ (by simp)⟩
end Go.Proofs.YbulkavxkDoor
