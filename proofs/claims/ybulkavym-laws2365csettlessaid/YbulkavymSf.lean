import Derived.Test.YbulkavymSe
namespace Go.Proofs.Ybulkavym
open Go.RowKit
set_option linter.unusedVariables false
set_option linter.unusedSimpArgs false

/-- What settling makes of the versions, the own version at i. -/
def setl (L : List Ver) (i : Nat) : List Ver :=
  match L[i]? with
  | none => L
  | some v => if v.p = true then { v with w := 0 } :: L.drop (i + 1) else L.drop (i + 1)
/-- What it makes of the spare bytes. -/
def gvs (sp : List Value) (L : List Ver) (i : Nat) : List Value :=
  match L[i]? with
  | none => sp
  | some _ => (L.take i).foldl (fun s (v : Ver) => giv s v.b) sp
theorem Rec.putw {R V : Nat} {m : Int} {v : Ver} {T : List Ver} {w : World} {o cap n : Nat} {A : Array Value} (hR : RB R (.slice (some ⟨V, o, none⟩) n cap) m w) (hV : w.heap[V]? = some (.cells A 53 (0, 0))) (hA : Lies A o (v :: T)) (hne : R ≠ V) (hsz : o + cap * 4 ≤ A.size) (hn : n ≤ cap) (hc : cap ≤ 6) (hl : (v :: T).length = n) : Rec R V m ({ v with w := 0 } :: T) (w.setCell ⟨V, o + 2, none⟩ (.int .u64 0)) := by
  have h0 := hA 0 v rfl
  simp only [Nat.zero_mul, Nat.add_zero] at h0
  obtain ⟨a0, a1, a2, a3⟩ := h0
  have hlt : o + 2 < A.size := by
    rcases Nat.lt_or_ge (o + 2) A.size with h' | h'
    · exact h'
    · rw [Array.getElem?_eq_none h'] at a2; cases a2
  obtain ⟨⟨B, hB, hb0, hb7⟩⟩ := hR
  refine ⟨⟨o, cap, _, ⟨⟨B, (Below.heap_setCell _ _ _ _ hne).trans hB, hb0, by rw [← hl] at hb7; exact hb7⟩⟩, heap_set hV _ _, ?_, by simpa using hsz, by simp at hl ⊢; omega, hc⟩⟩
  intro k u hu
  cases k with
  | zero =>
    simp at hu
    subst hu
    simp only [Nat.zero_mul, Nat.add_zero]
    refine ⟨?_, ?_, ?_, ?_⟩
    · rw [Array.getElem?_setIfInBounds_ne (by omega)]; exact a0
    · rw [Array.getElem?_setIfInBounds_ne (by omega)]; exact a1
    · rw [Array.getElem?_setIfInBounds_self_of_lt hlt]
    · rw [Array.getElem?_setIfInBounds_ne (by omega)]; exact a3
  | succ k =>
    have hk : (v :: T)[k + 1]? = some u := by simpa using hu
    obtain ⟨b0, b1, b2, b3⟩ := hA (k + 1) u hk
    refine ⟨?_, ?_, ?_, ?_⟩
    · rw [Array.getElem?_setIfInBounds_ne (by omega)]; exact b0
    · rw [Array.getElem?_setIfInBounds_ne (by omega)]; exact b1
    · rw [Array.getElem?_setIfInBounds_ne (by omega)]; exact b2
    · rw [Array.getElem?_setIfInBounds_ne (by omega)]; exact b3

set_option maxRecDepth 100000 in
set_option maxHeartbeats 2000000 in
theorem settle_none (wb R V cap : Nat) (m id : Int) (wv : Value) (sp : List Value) (L : List Ver) (A : Array Value) (w : World) (hW : WB wb 0 id wv sp w) (hR : RB R (.slice (some ⟨V, 0, none⟩) L.length cap) m w) (hV : w.heap[V]? = some (.cells A 53 (0, 0))) (hA : Lies A 0 L) (hsz : cap * 4 ≤ A.size) (hn : L.length ≤ cap) (hc : cap ≤ 6) (i : Nat) (hi : ∀ k v, L[k]? = some v → (v.w = id ↔ k = i)) (hil : L.length ≤ i) :
    Calls Yba.prog 14 #[.pointer (some ⟨R, 0, none⟩), .pointer (some ⟨wb, 0, none⟩)] w fun e w' => e = .returned (.tuple #[]) ∧ Turns (fun _ => False) w w' := by
  have hf := fun w' (h : w'.heap = w.heap) => find_any R V 0 cap L A id i m w' ⟨by rw [h]; exact hR.1⟩ (by rw [h]; exact hV) hA hi (by omega)
  rw [if_neg (by omega)] at hf
  obtain ⟨⟨B, hB, _, h7⟩⟩ := hR
  have hc7 : w.cell? ⟨R, 7, none⟩ = some (.slice (some ⟨V, 0, none⟩) L.length cap) := (cell_blk hB 7).trans h7
  obtain ⟨⟨C, hC, _, h2, _⟩, _⟩ := hW
  have hw2 : w.cell? ⟨wb, 2, none⟩ = some (.int .u64 id) := (cell_blk hC 2).trans h2
  have HT : Hid (∀ w', Turns (fun _ => False) w w' → Turns (fun _ => False) w w'.drew) := fun w' h => h.drew
  by_cases hl : L.length = 2
  · obtain ⟨v1, hv1⟩ := at_some L (k := 1) (by omega)
    have e2 : w.cell? ⟨V, 6, none⟩ = some (.int .u64 v1.w) := (VerAt.cells (hA 1 v1 hv1) hV).c2
    have q : (v1.w == id) = false := by
      have : ¬ v1.w = id := fun h => by have := (hi 1 v1 hv1).1 h; omega
      simpa using this
    have HF : Hid (∀ w', w'.heap = w.heap → Calls Yba.prog 18 #[.pointer (some ⟨R, 0, none⟩), .int .u64 id] w' fun e w'' => e = .returned (.int .i64 (-1)) ∧ w'' = w') := hf
    rw [hl] at hc7
    clear hB h7 hC h2 hV hA hi hv1 hf
    go_enter Yba.func14, Yba.ntmps14
    go_wp2
    go_region
    all_goals (go_wp2_with fail)
    all_goals (refine (HF.out w.drew rfl).mono ?_)
    all_goals (rintro e w' ⟨rfl, rfl⟩; go_wp2; (try simp only [Exit.inBlock, Exit.then]); refine bodyPost_ret (results_none rfl _ _ _) rfl ?_)
    all_goals exact ⟨rfl, (Turns.refl _ _).drew⟩
  · have d2 : ((L.length : Int) == 2) = false := by simp; omega
    have HF : Hid (∀ w', w'.heap = w.heap → Calls Yba.prog 18 #[.pointer (some ⟨R, 0, none⟩), .int .u64 id] w' fun e w'' => e = .returned (.int .i64 (-1)) ∧ w'' = w') := hf
    generalize L.length = n at *
    clear hB h7 hC h2 hV hA hi hf
    go_enter Yba.func14, Yba.ntmps14
    go_wp2
    go_region
    all_goals (go_wp2_with fail)
    all_goals (refine (HF.out w.drew rfl).mono ?_)
    all_goals (rintro e w' ⟨rfl, rfl⟩; go_wp2; (try simp only [Exit.inBlock, Exit.then]); refine bodyPost_ret (results_none rfl _ _ _) rfl ?_)
    all_goals exact ⟨rfl, (Turns.refl _ _).drew⟩

set_option maxRecDepth 100000 in
set_option maxHeartbeats 2000000 in
theorem settle_two (wb R V cap : Nat) (m id : Int) (wv : Value) (sp : List Value) (a b : Ver) (A : Array Value) (w : World) (hW : WB wb 0 id wv sp w) (hR : RB R (.slice (some ⟨V, 0, none⟩) 2 cap) m w) (hV : w.heap[V]? = some (.cells A 53 (0, 0))) (hA : Lies A 0 [a, b]) (hsz : cap * 4 ≤ A.size) (hn : 2 ≤ cap) (hc : cap ≤ 6) (ha : Good a.b) (hb : b.w = id) :
    Calls Yba.prog 14 #[.pointer (some ⟨R, 0, none⟩), .pointer (some ⟨wb, 0, none⟩)] w fun e w' => e = .returned (.tuple #[]) ∧ Rec R V m (if b.p = true then [{ b with w := 0 }] else []) w' ∧ WB wb 0 id wv (giv sp a.b) w' ∧ Turns (fun k => k = R ∨ k = V ∨ k = wb) w w' := by
  have hne : R ≠ V := by obtain ⟨⟨B, hB, _⟩⟩ := hR; exact ne_tag hB hV (by decide)
  have hnw : R ≠ wb := by obtain ⟨⟨B, hB, _⟩⟩ := hR; obtain ⟨⟨C, hC, _⟩, _⟩ := hW; exact ne_tag hB hC (by decide)
  have hvw : V ≠ wb := by obtain ⟨⟨C, hC, _⟩, _⟩ := hW; exact ne_tag hV hC (by decide)
  have hWd : WB wb 0 id wv sp w.drew := ⟨hW.1, hW.2⟩
  have hd := drop_any wb id wv sp a.b ha w.drew hWd
  have HK : Hid (∀ w1, Turns (fun k => k = wb) w.drew w1 → RB R (.slice (some ⟨V, 0, none⟩) 2 cap) m w1 ∧ w1.heap[V]? = some (.cells A 53 (0, 0))) := fun w1 ht => ⟨RB.keep (w := w.drew) ⟨hR.1⟩ ht hnw, Turns.keep (a := w.drew) ht hV hvw⟩
  obtain ⟨⟨B, hB, _, h7⟩⟩ := hR
  have hc7 : w.cell? ⟨R, 7, none⟩ = some (.slice (some ⟨V, 0, none⟩) 2 cap) := (cell_blk hB 7).trans h7
  obtain ⟨⟨C, hC, _, h2, _⟩, _⟩ := hW
  have hw2 : w.cell? ⟨wb, 2, none⟩ = some (.int .u64 id) := (cell_blk hC 2).trans h2
  have e2 : w.cell? ⟨V, 6, none⟩ = some (.int .u64 id) := by rw [← hb]; exact (VerAt.cells (hA 1 b rfl) hV).c2
  have e0 : w.cell? ⟨V, 0, none⟩ = some (.slice a.a a.n a.c) := (VerAt.cells (hA 0 a rfl) hV).c0
  have HA : Hid (Lies A 0 [a, b]) := hA
  obtain ⟨M, hM⟩ : ∃ M, M = (if b.p = true then [{ b with w := 0 }] else []) := ⟨_, rfl⟩
  rw [← hM]
  have HM : Hid (M = (if b.p = true then [{ b with w := 0 }] else [])) := hM
  clear hB h7 hC h2 hV hA hWd hM
  go_enter Yba.func14, Yba.ntmps14
  go_wp2
  go_region
  all_goals (go_wp2_with fail)
  all_goals refine hd.mono ?_
  rintro e w1 ⟨rfl, hW1, ht1⟩
  obtain ⟨hR1, hV1⟩ := HK.out w1 ht1
  have HR1 : Hid (RB R (.slice (some ⟨V, 0, none⟩) 2 cap) m w1) := hR1
  have HV1 : Hid (w1.heap[V]? = some (.cells A 53 (0, 0))) := hV1
  have HW1 : Hid (WB wb 0 id wv (giv sp a.b) w1) := hW1
  have HT1 : Hid (Turns (fun k => k = wb) w.drew w1) := ht1
  obtain ⟨⟨B, hB, _, h7⟩⟩ := hR1
  have f7 : w1.cell? ⟨R, 7, none⟩ = some (.slice (some ⟨V, 0, none⟩) 2 cap) := (cell_blk hB 7).trans h7
  have fz := frozen_blk hB
  have vz := frozen_blk hV1
  have a0 : w1.cell? ⟨V, 0, none⟩ = some (.slice a.a a.n a.c) := (VerAt.cells (HA.out 0 a rfl) hV1).c0
  have a1 : w1.cell? ⟨V, 1, none⟩ = some (.bool a.p) := (VerAt.cells (HA.out 0 a rfl) hV1).c1
  have a2 : w1.cell? ⟨V, 2, none⟩ = some (.int .u64 a.w) := (VerAt.cells (HA.out 0 a rfl) hV1).c2
  have a3 : w1.cell? ⟨V, 3, none⟩ = some (.pointer none) := (VerAt.cells (HA.out 0 a rfl) hV1).c3
  have b0 : w1.cell? ⟨V, 4, none⟩ = some (.slice b.a b.n b.c) := (VerAt.cells (HA.out 1 b rfl) hV1).c0
  have b1 : w1.cell? ⟨V, 5, none⟩ = some (.bool b.p) := (VerAt.cells (HA.out 1 b rfl) hV1).c1
  have b2 : w1.cell? ⟨V, 6, none⟩ = some (.int .u64 b.w) := (VerAt.cells (HA.out 1 b rfl) hV1).c2
  have b3 : w1.cell? ⟨V, 7, none⟩ = some (.pointer none) := (VerAt.cells (HA.out 1 b rfl) hV1).c3
  have hne2 : V ≠ R := fun h => hne h.symm
  have HREC : Hid (Rec R V m [{ b with w := 0 }] (((putVer (putVer w1 V 0 b) V 4 zVer).setCell ⟨R, 7, none⟩ (.slice (some ⟨V, 0, none⟩) 1 cap)).setCell ⟨V, 2, none⟩ (.int .u64 0)) ∧ Turns (fun k => k = R ∨ k = V) w1 (((putVer (putVer w1 V 0 b) V 4 zVer).setCell ⟨R, 7, none⟩ (.slice (some ⟨V, 0, none⟩) 1 cap)).setCell ⟨V, 2, none⟩ (.int .u64 0))) := by
    have t1 := turns_putVer w1 V 0 b
    have t2 := turns_putVer (putVer w1 V 0 b) V 4 zVer
    have r := ((HR1.out.keep t1 hne).keep t2 hne).set (.slice (some ⟨V, 0, none⟩) 1 cap)
    have v := heap_putVer (heap_putVer HV1.out 0 b) 4 zVer
    have v' := (Below.heap_setCell (putVer (putVer w1 V 0 b) V 4 zVer) ⟨R, 7, none⟩ (.slice (some ⟨V, 0, none⟩) 1 cap) V hne2).trans v
    refine ⟨Rec.putw (v := b) (T := []) (n := 1) (o := 0) r v' ?_ hne (by rw [setVer_size, setVer_size]; omega) (by omega) hc rfl, ?_⟩
    · intro k u hu
      cases k with
      | zero =>
        simp at hu
        subst hu
        exact (VerAt.same (by omega)).ne (Or.inl (by omega))
      | succ k => simp at hu
    · exact Turns.setCell (S := fun k => k = R ∨ k = V) (p := ⟨V, 2, none⟩) (Turns.setCell (S := fun k => k = R ∨ k = V) (p := ⟨R, 7, none⟩) ((t1.trans t2).mono (fun k e => Or.inr e)) (Or.inl rfl) _) (Or.inr rfl) _
  clear hB h7 hV1 hW1 ht1 hd hb
  have HT0 : Hid (∀ W5 W6, Turns (fun k => k = R ∨ k = V) w1 W5 → Turns (fun k => k = R ∨ k = V) W5 W6 → WB wb 0 id wv (giv sp a.b) W6 ∧ Turns (fun k => k = R ∨ k = V ∨ k = wb) w W6) := by
    intro W5 W6 h1 h2
    have h3 := h1.trans h2
    refine ⟨HW1.out.keep h3 (fun e => by rcases e with e | e; exact hnw e.symm; exact hvw e.symm), ?_⟩
    exact ((Turns.refl _ w).drew.trans (HT1.out.mono (fun k e => Or.inr (Or.inr e)))).trans (h3.mono (fun k e => by rcases e with e | e; exact Or.inl e; exact Or.inr (Or.inl e)))
  obtain ⟨ba, bn, bc, bp, bw⟩ := b
  simp only at b0 b1 b2
  cases bp
  · have HE : Hid (M = []) := by show M = []; have := HM.out; simpa using this
    go_wp2_with fail
    refine (trim_any R V m _ [] _ HREC.out.1 rfl rfl).mono ?_
    rintro e w' ⟨rfl, hr, ht⟩
    have HQ := HT0.out _ _ HREC.out.2 ht
    have HRR : Hid (Rec R V m M w') := by rw [HE.out]; exact hr
    clear hr ht
    go_wp2
    go_end0
    exact ⟨rfl, HRR.out, HQ⟩
  · have HE : Hid (M = [⟨ba, bn, bc, true, 0⟩]) := by show M = _; have := HM.out; simpa using this
    go_wp2
    go_end0
    exact ⟨rfl, by rw [HE.out]; exact HREC.out.1, HT0.out _ _ HREC.out.2 (Turns.refl _ _)⟩

end Go.Proofs.Ybulkavym
