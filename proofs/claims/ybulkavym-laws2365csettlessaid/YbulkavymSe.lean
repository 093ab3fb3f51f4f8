import Derived.Test.YbulkavymSd
namespace Go.Proofs.Ybulkavym
open Go.RowKit
set_option linter.unusedVariables false
set_option linter.unusedSimpArgs false

theorem ne_tag {w : World} {b c : Nat} {A B : Array Value} {s t : TypeId} (h : w.heap[b]? = some (.cells A s (0, 0))) (k : w.heap[c]? = some (.cells B t (0, 0))) (hst : s ≠ t) : b ≠ c := by
  rintro rfl
  rw [h] at k
  simp at k
  exact hst k.2
theorem RB.set {R : Nat} {vv : Value} {m : Int} {w : World} (h : RB R vv m w) (u : Value) : RB R u m (w.setCell ⟨R, 7, none⟩ u) := by
  obtain ⟨⟨A, h1, h2, h3⟩⟩ := h
  refine ⟨⟨_, heap_set h1 _ _, ?_, ?_⟩⟩
  · rw [Array.getElem?_setIfInBounds_ne (by omega)]; exact h2
  · rw [Array.getElem?_setIfInBounds_self_of_lt]
    rcases Nat.lt_or_ge 7 A.size with h' | h'
    · exact h'
    · rw [Array.getElem?_eq_none h'] at h3; cases h3
theorem RB.lock {R : Nat} {vv : Value} {m : Int} {w : World} (h : RB R vv m w) (m' : Int) : RB R vv m' (w.setCell ⟨R, 0, none⟩ (.int .i32 m')) := by
  obtain ⟨⟨A, h1, h2, h3⟩⟩ := h
  refine ⟨⟨_, heap_set h1 _ _, ?_, ?_⟩⟩
  · rw [Array.getElem?_setIfInBounds_self_of_lt]
    rcases Nat.lt_or_ge 0 A.size with h' | h'
    · exact h'
    · rw [Array.getElem?_eq_none h'] at h2; cases h2
  · rw [Array.getElem?_setIfInBounds_ne (by omega)]; exact h3
theorem RB.keep {R : Nat} {vv : Value} {m : Int} {w w' : World} {S : Nat → Prop} (h : RB R vv m w) (ht : Turns S w w') (hs : ¬ S R) : RB R vv m w' := by
  obtain ⟨⟨A, h1, h2, h3⟩⟩ := h
  exact ⟨⟨A, ht.keep h1 hs, h2, h3⟩⟩
theorem WB.keep {b : Nat} {rule id : Int} {wv : Value} {sp : List Value} {w w' : World} {S : Nat → Prop} (h : WB b rule id wv sp w) (ht : Turns S w w') (hs : ¬ S b) : WB b rule id wv sp w' := by
  obtain ⟨⟨A, h1, h2⟩, hl⟩ := h
  exact ⟨⟨A, ht.keep h1 hs, h2⟩, hl⟩
/-- The record and its versions. -/
structure Rec (R V : Nat) (m : Int) (L : List Ver) (w : World) : Prop where
  h : ∃ o cap A, RB R (.slice (some ⟨V, o, none⟩) L.length cap) m w ∧ w.heap[V]? = some (.cells A 53 (0, 0)) ∧ Lies A o L ∧ o + cap * 4 ≤ A.size ∧ L.length ≤ cap ∧ cap ≤ 6
theorem Rec.keep {R V : Nat} {m : Int} {L : List Ver} {w w' : World} {S : Nat → Prop} (h : Rec R V m L w) (ht : Turns S w w') (hR : ¬ S R) (hV : ¬ S V) : Rec R V m L w' := by
  obtain ⟨⟨o, cap, A, h1, h2, h3⟩⟩ := h
  exact ⟨⟨o, cap, A, h1.keep ht hR, ht.keep h2 hV, h3⟩⟩
theorem Rec.ne {R V : Nat} {m : Int} {L : List Ver} {w : World} (h : Rec R V m L w) : R ≠ V := by
  obtain ⟨⟨o, cap, A, ⟨⟨B, h1, _⟩⟩, h2, _⟩⟩ := h
  exact ne_tag h1 h2 (by decide)

set_option maxRecDepth 100000 in
set_option maxHeartbeats 2000000 in
theorem trim_any (R V : Nat) (m : Int) (v : Ver) (T : List Ver) (w : World) (h : Rec R V m (v :: T) w) (hp : v.p = false) (hw : v.w = 0) :
    Calls Yba.prog 20 #[.pointer (some ⟨R, 0, none⟩)] w fun e w' => e = .returned (.tuple #[]) ∧ Rec R V m T w' ∧ Turns (fun k => k = R ∨ k = V) w w' := by
  have hne := h.ne
  obtain ⟨⟨o, cap, A, hR, hV, hA, hsz, hn, hc⟩⟩ := h
  have hcut := cut_any V o cap 1 (v :: T) A w hV hA hsz hn hc (by simp)
  have HR := hR
  obtain ⟨⟨B, hB, _, h7⟩⟩ := hR
  have hc7 : w.cell? ⟨R, 7, none⟩ = some (.slice (some ⟨V, o, none⟩) (v :: T).length cap) := (cell_blk hB 7).trans h7
  obtain ⟨e0, e1, e2, e3⟩ := VerAt.cells (hA 0 v rfl) hV
  simp only [Nat.zero_mul, Nat.add_zero, hp, hw] at e0 e1 e2 e3
  have d1 : decide ((0 : Int) < ((v :: T).length : Int)) = true := by simp
  have d2 : decide (0 < (v :: T).length) = true := by simp
  have HF : Hid (∀ w', RB R (.slice (some ⟨V, o, none⟩) (v :: T).length cap) m w' → ∀ o' cap' A', w'.heap[V]? = some (.cells A' 53 (0, 0)) → Lies A' o' T → o' + cap' * 4 ≤ A'.size → (v :: T).length - 1 ≤ cap' → cap' ≤ 6 → Rec R V m T (w'.setCell ⟨R, 7, none⟩ (.slice (some ⟨V, o', none⟩) ((v :: T).length - 1) cap'))) := by
    intro w' h1 o' cap' A' h2 h3 h4 h5 h6
    exact ⟨⟨o', cap', A', h1.set _, (Below.heap_setCell _ _ _ _ (fun e => hne e.symm)).trans h2, h3, h4, by simpa using h5, h6⟩⟩
  have HR' : Hid (∀ w', Turns (fun k => k = V) w w' → RB R (.slice (some ⟨V, o, none⟩) (v :: T).length cap) m w') := fun w' ht => HR.keep ht hne
  have hlen : 1 ≤ (v :: T).length := by simp
  simp only [List.drop_one, List.tail_cons] at hcut
  generalize (v :: T).length = n at *
  clear hB h7 HR hV hA
  go_enter Yba.func20, Yba.ntmps20
  go_wp2_with fail
  refine hcut.mono ?_
  rintro e w' ⟨o', cap', A', rfl, h1, h2, h3, h4, h5, h6⟩
  have hr := HR'.out w' h6
  have HRR : Hid (RB R (.slice (some ⟨V, o, none⟩) n cap) m w') := hr
  obtain ⟨⟨B', hB', _, h7'⟩⟩ := hr
  have hc7' : w'.cell? ⟨R, 7, none⟩ = some (.slice (some ⟨V, o, none⟩) n cap) := (cell_blk hB' 7).trans h7'
  have hz7 := frozen_blk hB'
  have HX : Hid (Rec R V m T (w'.setCell ⟨R, 7, none⟩ (.slice (some ⟨V, o', none⟩) (n - 1) cap'))) := HF.out w' HRR.out o' cap' A' h1 h2 h3 h4 h5
  clear hB' h7' h1 h2
  go_wp2
  go_end0
  exact ⟨rfl, HX.out, Turns.setCell (S := fun k => k = R ∨ k = V) (p := ⟨R, 7, none⟩) (h6.mono (fun k e => Or.inr e)) (Or.inl rfl) _⟩
end Go.Proofs.Ybulkavym
