import Derived.Test.YbulkavymSb
import Derived.Test.YbulkavymSh
namespace Go.Proofs.Ybulkavym
open Go.RowKit
set_option linter.unusedVariables false
set_option linter.unusedSimpArgs false

theorem info53 : (Yba.prog.info? 53).map (fun i => (i.zero, i.size, i.bytes)) = some (some (.agg #[.slice none 0 0, .bool false, .int .u64 0, .pointer none]), 4, 48) := by kernel_rfl
/-- The cells of a list of versions. -/
def vcells : List Ver → List Value
  | [] => []
  | v :: L => .slice v.a v.n v.c :: .bool v.p :: .int .u64 v.w :: .pointer none :: vcells L
theorem eql48 (a : Addr) (n c : Nat) (w : World) : (binOp .eql 48 (.slice (some a) n c) (.slice none 0 0)).run Yba.prog w = .ok (.bool false) w := by
  have h : ∀ d : Nat, (Op.equalIn (d + 1) 48 (.slice (some a) n c) (.slice none 0 0)).run Yba.prog w = .ok false w := fun d => by
    simp [Op.equalIn, run_underlying Yba.underlying48]
  simp only [binOp]
  simp [Op.equal, Op.maxDepth, h 9999]
theorem vcells_len (L : List Ver) : (vcells L).length = L.length * 4 := by
  induction L with
  | nil => rfl
  | cons v L ih => simp only [vcells, List.length_cons, ih]; omega
theorem vcells_one (L : List Ver) : ∀ u ∈ vcells L, u.oneCell' = true := by
  induction L with
  | nil => simp [vcells]
  | cons v L ih =>
    intro u hu
    simp only [vcells, List.mem_cons] at hu
    rcases hu with rfl | rfl | rfl | rfl | hu
    · rfl
    · rfl
    · rfl
    · rfl
    · exact ih u hu
theorem vcells_app (L M : List Ver) : vcells (L ++ M) = vcells L ++ vcells M := by
  induction L with
  | nil => rfl
  | cons v L ih => simp only [List.cons_append, vcells, ih]
/-- A version's cells within the list's. -/
theorem vcells_at (L : List Ver) (k : Nat) (v : Ver) (h : L[k]? = some v) : (vcells L)[k * 4]? = some v.b ∧ (vcells L)[k * 4 + 1]? = some (.bool v.p) ∧ (vcells L)[k * 4 + 2]? = some (.int .u64 v.w) ∧ (vcells L)[k * 4 + 3]? = some (.pointer none) := by
  induction L generalizing k with
  | nil => simp at h
  | cons u L ih =>
    cases k with
    | zero =>
      simp at h
      subst h
      exact ⟨rfl, rfl, rfl, rfl⟩
    | succ k =>
      have := ih k (by simpa using h)
      have e : ∀ r, (vcells (u :: L))[(k + 1) * 4 + r]? = (vcells L)[k * 4 + r]? := by
        intro r
        rw [show (k + 1) * 4 + r = (k * 4 + r) + 1 + 1 + 1 + 1 by omega]
        rfl
      exact ⟨(e 0).trans this.1, (e 1).trans this.2.1, (e 2).trans this.2.2.1, (e 3).trans this.2.2.2⟩
/-- What lies at o reads as the list's cells. -/
theorem lies_cells {A : Array Value} {o : Nat} {L : List Ver} (h : Lies A o L) (j : Nat) (u : Value) (hu : (vcells L)[j]? = some u) : A[o + j]? = some u := by
  have hj := at_lt hu
  rw [vcells_len] at hj
  obtain ⟨v, hv⟩ := at_some L (k := j / 4) (by omega)
  have h1 := vcells_at L _ v hv
  have h2 := h _ v hv
  have hd : j = j / 4 * 4 + j % 4 := by omega
  have hm : j % 4 < 4 := Nat.mod_lt _ (by omega)
  generalize j / 4 = q at *
  generalize j % 4 = r at *
  subst hd
  obtain rfl | rfl | rfl | rfl : r = 0 ∨ r = 1 ∨ r = 2 ∨ r = 3 := by omega
  · rw [Nat.add_zero] at hu ⊢; rw [h1.1] at hu; rw [h2.1]; exact hu
  · rw [h1.2.1] at hu; rw [← Nat.add_assoc, h2.2.1]; exact hu
  · rw [h1.2.2.1] at hu; rw [← Nat.add_assoc, h2.2.2.1]; exact hu
  · rw [h1.2.2.2] at hu; rw [← Nat.add_assoc, h2.2.2.2]; exact hu
/-- A row whose cells are the list's: the versions lie there. -/
theorem lies_of_take {A : Array Value} {L : List Ver} (h : A.toList.take (L.length * 4) = vcells L) : Lies A 0 L := by
  have e : ∀ j, j < L.length * 4 → A[j]? = (vcells L)[j]? := by
    intro j hj
    rw [← h, List.getElem?_take, if_pos hj]
    simp
  intro k v hv
  have hk := at_lt hv
  have h1 := vcells_at L k v hv
  simp only [Nat.zero_add]
  exact ⟨(e _ (by omega)).trans h1.1, (e _ (by omega)).trans h1.2.1, (e _ (by omega)).trans h1.2.2.1, (e _ (by omega)).trans h1.2.2.2⟩

set_option maxRecDepth 100000 in
theorem clone_any (V cap : Nat) (L : List Ver) (A : Array Value) (w : World) (hV : w.heap[V]? = some (.cells A 53 (0, 0))) (hA : Lies A 0 L) (hl : L.length ≤ 6) :
    Calls Yba.prog 9 #[.slice (some ⟨V, 0, none⟩) L.length cap] w fun e w' => ∃ C capc A', e = .returned (.slice (some ⟨C, 0, none⟩) L.length capc) ∧ w'.heap[C]? = some (.cells A' 53 (0, 0)) ∧ Lies A' 0 L ∧ L.length ≤ capc ∧ w.heap.size ≤ C ∧ Below w.heap.size w w' := by
  obtain ⟨i0, hi, hz0, hz1, hz2⟩ := info_parts info53
  have hq := eql48
  have HV : Hid (w.heap[V]? = some (.cells A 53 (0, 0))) := hV
  have HC : Hid (∀ j u, (vcells L)[j]? = some u → A[j]? = some u) := fun j u hu => by have := lies_cells hA j u hu; rwa [Nat.zero_add] at this
  clear hA hV
  have HVs : Hid (V < w.heap.size) := lt_heap HV.out
  have hown0 : (w.alloc (.cells #[] 53)).ownsRow w.heap.size 53 4 (.slice (some ⟨w.heap.size, 0, none⟩) 0 0) 0 [] := ⟨rfl, Or.inr ⟨w.heap.size, 0, #[], rfl, Nat.le_refl _, heap_alloc_new w _, Nat.le_refl _, Nat.zero_le _, rfl, rfl⟩⟩
  go_enter Yba.func9, Yba.ntmps9
  go_wp2_with (first | (at_builtin; refine wpList_append_own _ rfl _ _ 48 rfl w.heap.size 53 i0 _ 4 48 Yba.underlying48 hi hz0 hz1 hz2 rfl (by decide) (.slice (some ⟨w.heap.size, 0, none⟩) 0 0) 0 [] rfl hown0 ⟨V, 0, none⟩ L.length cap (vcells L) rfl (vcells_len L) ?_ (vcells_one L) (by unfold maxLen; omega) (by omega) (by simp) ?_))
  · intro j u hu
    rw [Addr.add_lit, Nat.zero_add, cell_blk ((Below.heap_alloc _ _ _ HVs.out).trans HV.out) j]
    exact HC.out j u hu
  · intro v' w' h1 h2 h3
    have HB : Hid (Below w.heap.size w w') := ((Below.refl _ _).alloc (Nat.le_refl _) _).grown h2 (by simp) (fun k e => by simp [Value.ownBlock] at e; omega)
    obtain ⟨C, capc, A', hv, hg, hh, ht, hc⟩ : ∃ C capc A', v' = .slice (some ⟨C, 0, none⟩) L.length capc ∧ w.heap.size ≤ C ∧ w'.heap[C]? = some (.cells A' 53 (0, 0)) ∧ A'.toList.take (L.length * 4) = vcells L ∧ L.length ≤ capc := by
      rcases h1.2 with ⟨h, _⟩ | ⟨g', cap', cur, hv, hb, hh, h4, _, hsz, ht⟩
      · exact absurd h (by simpa using h3)
      · exact ⟨g', cap', cur, hv, hb, hh, ht, h4⟩
    subst hv
    have HH : Hid (w'.heap[C]? = some (.cells A' 53 (0, 0))) := hh
    have HL : Hid (Lies A' 0 L) := lies_of_take ht
    clear h1 h2 h3 hh ht
    go_wp2
    go_ret
    exact ⟨C, capc, A', rfl, HH.out, HL.out, hc, hg, HB.out⟩
end Go.Proofs.Ybulkavym
