import Derived.Test.YbulkavymSm
namespace Go.Proofs.Ybulkavym
open Go.RowKit
set_option linter.unusedVariables false
set_option linter.unusedSimpArgs false

theorem Made.round {w w0 wy w5 w8 : World} {n k ln cap c cc I : Nat} {rule id : Int} {D : Nat → RD} {X : Sys} {C : Nat → Nat} {wa : Option Addr} {wc : Nat} {cur CA Z70 : Array Value} {LF : List Ver} {v8 od : Value}
    (h : Made w n rule id D X C (.slice wa k wc) w0) (hXK : X.K = k) (hkn : k < n) (hby : Below w0.heap.size w0 wy) (hsy : w0.heap.size + 2 ≤ wy.heap.size)
    (hcur : wy.heap[w0.heap.size + 1]? = some (.cells cur 53 (0, 0))) (hcs : cur.size = cap * 4) (hl : Lies cur 0 LF) (hln : LF.length = ln) (hlc : ln ≤ cap) (hc6 : cap ≤ 6)
    (hc5 : w5.heap[c]? = some (.cells CA 53 (0, 0))) (hcl : Lies CA 0 LF) (hcc : ln ≤ cc) (hcge : wy.heap.size ≤ c) (hb5 : Below wy.heap.size wy w5) (hB5 : Below w0.heap.size w0 w5)
    (hs70 : Z70.size = 22) (hz0 : Z70[0]? = some (.int .i32 0))
    (hg8 : (((w5.setCell ⟨w.heap.size + 1, k, none⟩ (.slice (some ⟨c, 0, none⟩) ln cc)).alloc (.cells ((Z70.setIfInBounds 7 (.slice (some ⟨w0.heap.size + 1, 0, none⟩) ln cap)).setIfInBounds 8 od) 70)).alloc (.cells #[.pointer (some ⟨w5.heap.size, 0, none⟩)] 56)).grownBy w8 (Value.slice wa k wc).ownBlock)
    (hrow8 : w8.ownsRow (w.heap.size + 2) 56 1 v8 (k + 1) (ptrs X k ++ [.pointer (some ⟨w5.heap.size, 0, none⟩)])) (hs : Shape id (D k) LF I) :
    (∃ A, w8.heap[w.heap.size]? = some (.cells A 44 (0, 0)) ∧ A[6]? = some (.slice wa k wc)) ∧ ∃ X' : Sys, ∃ C' : Nat → Nat, X'.K = k + 1 ∧ Made w n rule id D X' C' v8 (w8.setCell ⟨w.heap.size, 6, none⟩ v8) := by
  subst hXK
  subst hln
  obtain ⟨O, hO0, hO1, hO2⟩ := h.orig
  obtain ⟨⟨WA, hWA, a1, a2, a6, a77, a78, a13⟩, hwl⟩ := h.wbk
  have hl0 : w.heap.size + 1 < w0.heap.size := lt_heap hO0
  have hrowlt : ∀ x, (Value.slice wa X.K wc).ownBlock = some x → x < w0.heap.size ∧ w.heap.size + 2 ≤ x := by
    intro x hx
    rcases h.row.2 with ⟨e, _⟩ | ⟨g, cap', cu, e, hge, hh, _⟩
    · rw [e] at hx; cases hx
    · rw [e] at hx; simp [Value.ownBlock] at hx; subst hx; exact ⟨lt_heap hh, hge⟩
  have t5 : Turns (fun x => x = w.heap.size + 1 ∨ x = w.heap.size ∨ (Value.slice wa X.K wc).ownBlock = some x) w5 w8 := by
    refine Turns.grown (((Turns.setCell (S := fun x => x = w.heap.size + 1 ∨ x = w.heap.size ∨ (Value.slice wa X.K wc).ownBlock = some x) (p := ⟨w.heap.size + 1, X.K, none⟩) (Turns.refl _ _) (Or.inl rfl) _).alloc _).alloc _) hg8 (fun x e => Or.inl (Or.inr (Or.inr e)))
  have t9 : Turns (fun x => x = w.heap.size + 1 ∨ x = w.heap.size ∨ (Value.slice wa X.K wc).ownBlock = some x) w5 (w8.setCell ⟨w.heap.size, 6, none⟩ v8) := Turns.setCell (S := fun x => x = w.heap.size + 1 ∨ x = w.heap.size ∨ (Value.slice wa X.K wc).ownBlock = some x) (p := ⟨w.heap.size, 6, none⟩) t5 (Or.inr (Or.inl rfl)) _
  have t0 : Turns (fun x => x = w.heap.size + 1 ∨ x = w.heap.size ∨ (Value.slice wa X.K wc).ownBlock = some x) w0 (w8.setCell ⟨w.heap.size, 6, none⟩ v8) := (Turns.of_below hB5).trans t9
  have z5 := hB5.size
  have zy := hb5.size
  have hV5 : w5.heap[w0.heap.size + 1]? = some (.cells cur 53 (0, 0)) := (hb5.block _ (lt_heap hcur)).trans hcur
  have hnew : ∀ x, w0.heap.size ≤ x → ¬ (x = w.heap.size + 1 ∨ x = w.heap.size ∨ (Value.slice wa X.K wc).ownBlock = some x) := by
    rintro x hx (e | e | e)
    · omega
    · omega
    · have := hrowlt x e; omega
  have hW5 : w5.heap[w.heap.size]? = some (.cells WA 44 (0, 0)) := (hB5.block _ (lt_heap hWA)).trans hWA
  have hO5 : w5.heap[w.heap.size + 1]? = some (.cells O 48 (0, 0)) := (hB5.block _ hl0).trans hO0
  have hW8 : w8.heap[w.heap.size]? = some (.cells WA 44 (0, 0)) := by
    rw [hg8.block _ (by simp [World.setCell]; omega) (fun e => by have := hrowlt _ e.symm; omega), Below.heap_alloc _ _ _ (by simp [World.setCell]; omega), Below.heap_alloc _ _ _ (by simp [World.setCell]; omega), Below.heap_setCell _ _ _ _ (by simp)]
    exact hW5
  have hO8 : w8.heap[w.heap.size + 1]? = some (.cells (O.setIfInBounds X.K (.slice (some ⟨c, 0, none⟩) LF.length cc)) 48 (0, 0)) := by
    rw [hg8.block _ (by simp [World.setCell]; omega) (fun e => by have := hrowlt _ e.symm; omega), Below.heap_alloc _ _ _ (by simp [World.setCell]; omega), Below.heap_alloc _ _ _ (by simp [World.setCell]; omega)]
    exact heap_set hO5 _ _
  have hR8 : w8.heap[w5.heap.size]? = some (.cells ((Z70.setIfInBounds 7 (.slice (some ⟨w0.heap.size + 1, 0, none⟩) LF.length cap)).setIfInBounds 8 od) 70 (0, 0)) := by
    rw [hg8.block _ (by simp [World.setCell]; omega) (fun e => by have := hrowlt _ e.symm; omega), Below.heap_alloc _ _ _ (by simp [World.setCell])]
    have := heap_alloc_new (w5.setCell ⟨w.heap.size + 1, X.K, none⟩ (.slice (some ⟨c, 0, none⟩) LF.length cc)) (.cells ((Z70.setIfInBounds 7 (.slice (some ⟨w0.heap.size + 1, 0, none⟩) LF.length cap)).setIfInBounds 8 od) 70)
    simpa [World.setCell] using this
  refine ⟨⟨WA, hW8, a6⟩, X.push w5.heap.size (w0.heap.size + 1) LF I, _, rfl, Made.push (r := w5.heap.size) (v := w0.heap.size + 1) (c := c) (cc := cc) (i := I) (l := LF) h t0 ?_ ?_ ?_ ?_ hkn hcc ?_ ?_ hs z5 (by omega) (by omega) ?_⟩
  · refine h.bel.trans (t0.below h.bel.size ?_)
    rintro x (e | e | e)
    · omega
    · omega
    · have := hrowlt x e; omega
  · refine ⟨⟨_, heap_set hW8 _ _, ?_, ?_, ?_, ?_, by simpa using a78, fun j hj => absurd hj (Nat.not_lt_zero _)⟩, hwl⟩
    · rw [Array.getElem?_setIfInBounds_ne (by omega)]; exact a1
    · rw [Array.getElem?_setIfInBounds_ne (by omega)]; exact a2
    · rw [Array.getElem?_setIfInBounds_self_of_lt (by omega)]
    · rw [Array.getElem?_setIfInBounds_ne (by omega)]; exact a77
  · exact ownsRow_setCell_below hrow8 (by show w.heap.size < w.heap.size + 2; omega) _
  · exact ⟨O, hO0, (Below.heap_setCell _ _ _ _ (by simp)).trans hO8⟩
  · refine ⟨⟨cap, cur, ⟨⟨_, (Below.heap_setCell _ _ _ _ (by show w5.heap.size ≠ w.heap.size; omega)).trans hR8, ?_, ?_⟩⟩, t9.keep hV5 (hnew _ (by omega)), hl, by omega, hlc, hc6⟩⟩
    · rw [Array.getElem?_setIfInBounds_ne (by omega), Array.getElem?_setIfInBounds_ne (by omega)]; exact hz0
    · rw [Array.getElem?_setIfInBounds_ne (by omega), Array.getElem?_setIfInBounds_self_of_lt (by omega)]
  · exact ⟨CA, t9.keep hc5 (hnew _ (by omega)), hcl⟩
  · have := lt_heap hcur; omega
theorem cell_tmp (w5 : World) (a : Addr) (u : Value) (o : Obj) (x : Value) (t : TypeId) : ∀ j y, [x][j]? = some y → (((w5.setCell a u).alloc o).alloc (.cells #[x] t)).cell? ((⟨w5.heap.size + 1, 0, none⟩ : Addr).add j) = some y := by
  have e : ((w5.setCell a u).alloc o).heap.size = w5.heap.size + 1 := by simp [World.setCell]
  rw [← e]
  exact cell_one_new _ _ _
theorem own_form {w : World} {base e size n : Nat} {v : Value} {xs : List Value} (h : w.ownsRow base e size v n xs) (hn : 0 < n) : ∃ g cap, v = .slice (some ⟨g, 0, none⟩) n cap := by
  rcases h.2 with ⟨_, e⟩ | ⟨g, cap, _, e, _⟩
  · omega
  · exact ⟨g, cap, e⟩
end Go.Proofs.Ybulkavym
