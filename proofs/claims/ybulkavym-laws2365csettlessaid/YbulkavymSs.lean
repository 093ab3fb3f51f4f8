import Derived.Test.YbulkavymSp
namespace Go.Proofs.Ybulkavym
open Go.RowKit
set_option linter.unusedVariables false
set_option linter.unusedSimpArgs false

/-- A record's versions after the commit. -/
def Mof (rule : Int) (X : Sys) (i : Nat) : List Ver := if rule = 0 then setl (X.L i) (X.I i) else X.L i
/-- What stands after the commit. -/
structure Done (w : World) (n : Nat) (rule id : Int) (D : Nat → RD) (X : Sys) (C : Nat → Nat) (wv : Value) (wd : World) : Prop where
  bel : Below w.heap.size w wd
  wbk : WB w.heap.size rule id wv ((wl X D rule n).take 64) wd
  row : ∃ wa wc, wv = .slice wa n wc ∧ (0 < n → ∃ g G, wa = some ⟨g, 0, none⟩ ∧ wd.heap[g]? = some (.cells G 56 (0, 0)) ∧ ∀ i, i < n → G[i]? = some (.pointer (some ⟨X.R i, 0, none⟩)))
  orig : ∃ O, wd.heap[w.heap.size + 1]? = some (.cells O 48 (0, 0)) ∧ O.size = n ∧ ∀ i, i < n → ∃ c, (X.L i).length ≤ c ∧ O[i]? = some (.slice (some ⟨C i, 0, none⟩) (X.L i).length c)
  rcs : ∀ i, i < n → Rec (X.R i) (X.V i) 0 (Mof rule X i) wd
  clo : ∀ i, i < n → ∃ A, wd.heap[C i]? = some (.cells A 53 (0, 0)) ∧ Lies A 0 (X.L i)
  shp : ∀ i, i < n → Shape id (D i) (X.L i) (X.I i)

theorem Made.gp {w : World} {n : Nat} {rule id : Int} {D : Nat → RD} {X : Sys} {C : Nat → Nat} {wv : Value} {wr : World} (h : Made w n rule id D X C wv wr) (hK : X.K = n) :
    ∃ wa wc, wv = .slice wa n wc ∧ (0 < n → ∃ g G, wa = some ⟨g, 0, none⟩ ∧ wr.heap[g]? = some (.cells G 56 (0, 0)) ∧ ∀ i, i < n → G[i]? = some (.pointer (some ⟨X.R i, 0, none⟩))) := by
  rcases h.row.2 with ⟨e1, e2⟩ | ⟨g, cap, cu, e1, hge, hh, _, _, _, ht⟩
  · exact ⟨none, 0, by rw [e1, ← hK, e2], fun h0 => by omega⟩
  · refine ⟨_, cap, by rw [e1, hK], fun h0 => ⟨g, cu, rfl, hh, fun i hi => ?_⟩⟩
    have h1 := ptrs_at X X.K i (by omega)
    rw [← ht, List.getElem?_take, if_pos (by omega)] at h1
    simpa using h1
theorem Made.doneSame {w : World} {n : Nat} {rule id : Int} {D : Nat → RD} {X : Sys} {C : Nat → Nat} {wv : Value} {wr : World} (h : Made w n rule id D X C wv wr) (hK : X.K = n) (hr : rule ≠ 0 ∨ n = 0) : Done w n rule id D X C wv wr := by
  have e : wl X D rule n = [] := by
    rcases hr with hr | hr
    · exact wl_off X D rule hr n
    · subst hr; rfl
  refine ⟨h.bel, by rw [e]; exact h.wbk, h.gp hK, ?_, fun i hi => ?_, fun i hi => h.clo i (by omega), fun i hi => h.shp i (by omega)⟩
  · obtain ⟨O, h1, h2, h3⟩ := h.orig
    exact ⟨O, h1, h2, fun i hi => h3 i (by omega)⟩
  · rcases hr with hr | hr
    · unfold Mof
      rw [if_neg hr]
      exact (h.rcs i (by omega)).toRec
    · omega
theorem Made.donePart {w : World} {n : Nat} {id : Int} {D : Nat → RD} {X : Sys} {C : Nat → Nat} {wv : Value} {wr wd : World} (h : Made w n 0 id D X C wv wr) (hK : X.K = n) (hp : Part X w.heap.size id wv [] X.K wr wd) : Done w n 0 id D X C wv wd := by
  have t44 := h.wbk.tag
  have tR : ∀ i, i < X.K → ∃ A, wr.heap[X.R i]? = some (.cells A 70 (0, 0)) := fun i hi => (h.rcs i hi).toRec.tagR
  have tV : ∀ i, i < X.K → ∃ A, wr.heap[X.V i]? = some (.cells A 53 (0, 0)) := fun i hi => (h.rcs i hi).toRec.tagV
  have hS : ∀ x A t, wr.heap[x]? = some (.cells A t (0, 0)) → t ≠ 44 → t ≠ 70 → t ≠ 53 → ¬ X.S w.heap.size x := by
    rintro x A t hx h1 h2 h3 (q | ⟨i, hi, q | q⟩)
    · obtain ⟨B, hB⟩ := t44; subst q; exact tag_ne hx hB h1
    · obtain ⟨B, hB⟩ := tR i hi; subst q; exact tag_ne hx hB h2
    · obtain ⟨B, hB⟩ := tV i hi; subst q; exact tag_ne hx hB h3
  have hC : ∀ j, j < X.K → ¬ X.S w.heap.size (C j) := by
    rintro j hj (q | ⟨i, hi, q | q⟩)
    · obtain ⟨B, hB⟩ := t44; obtain ⟨A, hA, _⟩ := h.clo j hj; rw [q] at hA; exact tag_ne hA hB (by decide)
    · obtain ⟨B, hB⟩ := tR i hi; obtain ⟨A, hA, _⟩ := h.clo j hj; rw [q] at hA; exact tag_ne hA hB (by decide)
    · exact h.cv j i hj hi q
  have e : spk X [] X.K = (wl X D 0 X.K).take 64 := spk_wl X D id h.shp X.K (Nat.le_refl _)
  refine ⟨?_, by rw [← hK, ← e]; exact hp.hw, ?_, ?_, fun i hi => ?_, fun i hi => ?_, fun i hi => h.shp i (by omega)⟩
  · refine h.bel.trans (hp.ht.below h.bel.size ?_)
    rintro k (q | ⟨i, hi, q | q⟩)
    · omega
    · have := (h.low i hi).1; omega
    · have := (h.low i hi).2; omega
  · obtain ⟨wa, wc, h1, h2⟩ := h.gp hK
    refine ⟨wa, wc, h1, fun h0 => ?_⟩
    obtain ⟨g, G, h3, h4, h5⟩ := h2 h0
    exact ⟨g, G, h3, hp.ht.keep h4 (hS g G 56 h4 (by decide) (by decide) (by decide)), h5⟩
  · obtain ⟨O, h1, h2, h3⟩ := h.orig
    exact ⟨O, hp.ht.keep h1 (hS _ O 48 h1 (by decide) (by decide) (by decide)), h2, fun i hi => h3 i (by omega)⟩
  · unfold Mof
    rw [if_pos rfl]
    exact hp.hd i (by omega)
  · obtain ⟨A, h1, h2⟩ := h.clo i (by omega)
    exact ⟨A, hp.ht.keep h1 (hC i (by omega)), h2⟩

set_option maxRecDepth 100000 in
set_option maxHeartbeats 2000000 in
theorem written_nil (wb : Nat) (id : Int) (sp : List Value) (w : World) (h : WB wb 0 id (.slice none 0 0) sp w) :
    Calls Yba.prog 12 #[.pointer (some ⟨wb, 0, none⟩)] w fun e w' => e = .returned (.tuple #[]) ∧ w' = w := by
  obtain ⟨⟨C, hC, _, _, h6, _⟩, _⟩ := h
  have hw6 : w.cell? ⟨wb, 6, none⟩ = some (.slice none 0 0) := (cell_blk hC 6).trans h6
  clear hC h6
  go_enter Yba.func12, Yba.ntmps12
  go_wp2
  go_loopw [9] (fun p wr => p = .int .i64 0 ∧ wr = w) (fun _ _ => 0)
  case atStart => exact ⟨rfl, rfl⟩
  case round =>
    obtain ⟨rfl, rfl⟩ := hrel
    go_wp2
    go_end0
    exact ⟨rfl, rfl⟩
set_option maxRecDepth 100000 in
theorem commit_nil (wb : Nat) (id : Int) (sp : List Value) (w : World) (h : WB wb 0 id (.slice none 0 0) sp w) :
    Calls Yba.prog 10 #[.pointer (some ⟨wb, 0, none⟩)] w fun e w' => e = .returned (.tuple #[]) ∧ w' = w := by
  have hs := written_nil wb id sp w h
  obtain ⟨⟨C, hC, h1, _⟩, _⟩ := h
  have hw1 : w.cell? ⟨wb, 1, none⟩ = some (.int .u8 0) := (cell_blk hC 1).trans h1
  clear hC h1
  go_enter Yba.func10, Yba.ntmps10
  go_wp2_with fail
  refine hs.mono ?_
  rintro e w' ⟨rfl, rfl⟩
  go_wp2
  go_end0
  exact ⟨rfl, rfl⟩
theorem commit_all {w : World} {n : Nat} {rule id : Int} {D : Nat → RD} {X : Sys} {C : Nat → Nat} {wv : Value} {wr : World} (h : Made w n rule id D X C wv wr) (hK : X.K = n) (hn : n ≤ 300) :
    Calls Yba.prog 10 #[.pointer (some ⟨w.heap.size, 0, none⟩)] wr fun e w' => e = .returned (.tuple #[]) ∧ Done w n rule id D X C wv w' := by
  by_cases hr : rule = 0
  · subst hr
    have H := h
    rcases h.row.2 with ⟨e1, e2⟩ | ⟨g, cap, cu, e1, hge, hh, _, _, _, ht⟩
    · subst e1
      refine (commit_nil _ _ _ _ h.wbk).mono ?_
      rintro e w' ⟨rfl, rfl⟩
      exact ⟨rfl, h.doneSame hK (Or.inr (by omega))⟩
    · subst e1
      have hp : Part X w.heap.size id (.slice (some ⟨g, 0, none⟩) X.K cap) [] 0 wr wr := ⟨h.wbk, fun i hi => absurd hi (by omega), fun i _ hi => h.rcs i hi, Turns.refl _ _⟩
      refine (commit_with X _ g cap id [] cu wr (h.ok (by omega)) hp hh (fun i hi => ?_)).mono ?_
      · have h1 := ptrs_at X X.K i (by omega)
        rw [← ht, List.getElem?_take, if_pos (by omega)] at h1
        simpa using h1
      · rintro e w' ⟨rfl, hp'⟩
        exact ⟨rfl, H.donePart hK hp'⟩
  · refine (commit_other _ _ _ _ _ _ h.wbk hr).mono ?_
    rintro e w' ⟨rfl, rfl⟩
    exact ⟨rfl, h.doneSame hK (Or.inl hr)⟩
end Go.Proofs.Ybulkavym
