import Derived.Test.YbulkavymSi
namespace Go.Proofs.Ybulkavym
open Go.RowKit
set_option linter.unusedVariables false
set_option linter.unusedSimpArgs false

/-- One written record, as the law is told of it. -/
structure RD where
  b : Int
  a : Int
  h : Bool
  p : Bool
def nbOf (d : RD) : Nat := (d.b % 4).toNat
def naOf (d : RD) : Nat := (d.a % 3).toNat
/-- Versions of others. -/
def Oth (id : Int) (L : List Ver) : Prop := ∀ v ∈ L, Good v.b ∧ v.w ≠ id
structure Shape (id : Int) (d : RD) (L : List Ver) (I : Nat) : Prop where
  own : ∀ (k : Nat) (v : Ver), L[k]? = some v → (v.w = id ↔ k = I)
  good : ∀ (k : Nat) (v : Ver), L[k]? = some v → Good v.b
  len : L.length ≤ 6
  yes : d.h = true → I = nbOf d ∧ I < L.length
  no : d.h = false → L.length ≤ I
theorem nb_le (d : RD) : nbOf d ≤ 3 := by unfold nbOf; omega
theorem na_le (d : RD) : naOf d ≤ 2 := by unfold naOf; omega
theorem shape_yes {id : Int} {d : RD} {P S : List Ver} {o : Ver} (h : d.h = true) (hP : Oth id P) (hS : Oth id S) (ho : o.w = id) (hg : Good o.b) (hp : P.length = nbOf d) (hs : S.length = naOf d) : Shape id d (P ++ [o] ++ S) (nbOf d) := by
  have h1 := nb_le d
  have h2 := na_le d
  have hm : ∀ (k : Nat) (v : Ver), (P ++ [o] ++ S)[k]? = some v → (k = nbOf d ∧ v = o) ∨ (k ≠ nbOf d ∧ (v ∈ P ∨ v ∈ S)) := by
    intro k v hv
    rcases Nat.lt_trichotomy k (nbOf d) with e | e | e
    · rw [List.append_assoc, List.getElem?_append_left (by omega)] at hv
      exact Or.inr ⟨by omega, Or.inl (List.mem_of_getElem? hv)⟩
    · subst e
      rw [List.append_assoc, List.getElem?_append_right (by omega), hp] at hv
      simp at hv
      exact Or.inl ⟨rfl, hv.symm⟩
    · rw [List.getElem?_append_right (by simp; omega)] at hv
      exact Or.inr ⟨by omega, Or.inr (List.mem_of_getElem? hv)⟩
  refine ⟨fun k v hv => ?_, fun k v hv => ?_, by simp; omega, fun _ => ⟨rfl, by simp; omega⟩, fun e => by rw [h] at e; cases e⟩
  · rcases hm k v hv with ⟨e, rfl⟩ | ⟨e, e2⟩
    · exact ⟨fun _ => e, fun _ => ho⟩
    · refine ⟨fun q => absurd q ?_, fun q => absurd q e⟩
      rcases e2 with e2 | e2
      · exact (hP v e2).2
      · exact (hS v e2).2
  · rcases hm k v hv with ⟨e, rfl⟩ | ⟨e, e2 | e2⟩
    · exact hg
    · exact (hP v e2).1
    · exact (hS v e2).1
theorem shape_no {id : Int} {d : RD} {P S : List Ver} (h : d.h = false) (hP : Oth id P) (hS : Oth id S) (hp : P.length = nbOf d) (hs : S.length = naOf d) : Shape id d (P ++ S) (P ++ S).length := by
  have h1 := nb_le d
  have h2 := na_le d
  have hm : ∀ (k : Nat) (v : Ver), (P ++ S)[k]? = some v → Good v.b ∧ v.w ≠ id := by
    intro k v hv
    have := List.mem_of_getElem? hv
    rcases List.mem_append.1 this with e | e
    · exact hP v e
    · exact hS v e
  refine ⟨fun k v hv => ⟨fun q => absurd q (hm k v hv).2, fun q => ?_⟩, fun k v hv => (hm k v hv).1, by simp; omega, fun e => (by rw [h] at e; cases e), fun _ => Nat.le_refl _⟩
  have := at_lt hv
  omega

def Sys.push (X : Sys) (r v : Nat) (l : List Ver) (i : Nat) : Sys := { K := X.K + 1, R := fun j => if j = X.K then r else X.R j, V := fun j => if j = X.K then v else X.V j, L := fun j => if j = X.K then l else X.L j, I := fun j => if j = X.K then i else X.I j }
def ptrs (X : Sys) : Nat → List Value
  | 0 => []
  | k + 1 => ptrs X k ++ [.pointer (some ⟨X.R k, 0, none⟩)]
theorem ptrs_congr {X Y : Sys} (k : Nat) (h : ∀ i, i < k → X.R i = Y.R i) : ptrs X k = ptrs Y k := by
  induction k with
  | zero => rfl
  | succ k ih => simp only [ptrs]; rw [ih (fun i hi => h i (by omega)), h k (by omega)]
theorem ptrs_len (X : Sys) (k : Nat) : (ptrs X k).length = k := by
  induction k with
  | zero => rfl
  | succ k ih => simp [ptrs, ih]
theorem ptrs_at (X : Sys) (k i : Nat) (h : i < k) : (ptrs X k)[i]? = some (.pointer (some ⟨X.R i, 0, none⟩)) := by
  induction k with
  | zero => omega
  | succ k ih =>
    simp only [ptrs]
    by_cases e : i < k
    · rw [List.getElem?_append_left (by rw [ptrs_len]; exact e)]; exact ih e
    · have e2 : i = k := by omega
      subst e2
      rw [List.getElem?_append_right (by rw [ptrs_len]; omega), ptrs_len]
      simp

/-- What the law has made of the first X.K records. -/
structure Made (w : World) (n : Nat) (rule id : Int) (D : Nat → RD) (X : Sys) (C : Nat → Nat) (wv : Value) (wr : World) : Prop where
  bel : Below w.heap.size w wr
  wbk : WB w.heap.size rule id wv [] wr
  row : wr.ownsRow (w.heap.size + 2) 56 1 wv X.K (ptrs X X.K)
  orig : ∃ O, wr.heap[w.heap.size + 1]? = some (.cells O 48 (0, 0)) ∧ O.size = n ∧ ∀ i, i < X.K → ∃ c, (X.L i).length ≤ c ∧ O[i]? = some (.slice (some ⟨C i, 0, none⟩) (X.L i).length c)
  rcs : ∀ i, i < X.K → Rec0 (X.R i) (X.V i) 0 (X.L i) wr
  clo : ∀ i, i < X.K → ∃ A, wr.heap[C i]? = some (.cells A 53 (0, 0)) ∧ Lies A 0 (X.L i)
  shp : ∀ i, i < X.K → Shape id (D i) (X.L i) (X.I i)
  rinj : ∀ i j, i < X.K → j < X.K → X.R i = X.R j → i = j
  vinj : ∀ i j, i < X.K → j < X.K → X.V i = X.V j → i = j
  cv : ∀ i j, i < X.K → j < X.K → C i ≠ X.V j
  low : ∀ i, i < X.K → w.heap.size ≤ X.R i ∧ w.heap.size ≤ X.V i
theorem row_tag {w : World} {base e size n : Nat} {v : Value} {xs : List Value} (h : w.ownsRow base e size v n xs) {x : Nat} (hx : v.ownBlock = some x) : ∃ A, w.heap[x]? = some (.cells A e (0, 0)) := by
  rcases h.2 with ⟨e1, _⟩ | ⟨g, cap, cur, hv, _, hh, _⟩
  · subst e1; cases hx
  · subst hv; simp [Value.ownBlock] at hx; subst hx; exact ⟨cur, hh⟩
theorem tag_ne {w : World} {b : Nat} {A B : Array Value} {s t : TypeId} (h : w.heap[b]? = some (.cells A s (0, 0))) (k : w.heap[b]? = some (.cells B t (0, 0))) (hst : s ≠ t) : False := ne_tag h k hst rfl
theorem Made.push {w : World} {n : Nat} {rule id : Int} {D : Nat → RD} {X : Sys} {C : Nat → Nat} {wv wv' : Value} {wr W : World} {r v c cc i : Nat} {l : List Ver} (h : Made w n rule id D X C wv wr)
    (ht : Turns (fun x => x = w.heap.size + 1 ∨ x = w.heap.size ∨ wv.ownBlock = some x) wr W) (hb : Below w.heap.size w W) (hw : WB w.heap.size rule id wv' [] W) (hrow : W.ownsRow (w.heap.size + 2) 56 1 wv' (X.K + 1) (ptrs X X.K ++ [.pointer (some ⟨r, 0, none⟩)]))
    (ho : ∃ O, wr.heap[w.heap.size + 1]? = some (.cells O 48 (0, 0)) ∧ W.heap[w.heap.size + 1]? = some (.cells (O.setIfInBounds X.K (.slice (some ⟨c, 0, none⟩) l.length cc)) 48 (0, 0))) (hkn : X.K < n) (hcc : l.length ≤ cc)
    (hr : Rec0 r v 0 l W) (hc : ∃ A, W.heap[c]? = some (.cells A 53 (0, 0)) ∧ Lies A 0 l) (hs : Shape id (D X.K) l i) (r1 : wr.heap.size ≤ r) (v1 : wr.heap.size ≤ v) (c1 : wr.heap.size ≤ c) (hcv : c ≠ v) :
    Made w n rule id D (X.push r v l i) (fun j => if j = X.K then c else C j) wv' W := by
  have hS53 : ∀ x A, wr.heap[x]? = some (.cells A 53 (0, 0)) → ¬ (x = w.heap.size + 1 ∨ x = w.heap.size ∨ wv.ownBlock = some x) := by
    rintro x A hx (e | e | e)
    · obtain ⟨O, h1, _⟩ := h.orig; subst e; exact tag_ne hx h1 (by decide)
    · obtain ⟨B, h1⟩ := h.wbk.tag; subst e; exact tag_ne hx h1 (by decide)
    · obtain ⟨B, h1⟩ := row_tag h.row e; exact tag_ne hx h1 (by decide)
  have hS70 : ∀ x A, wr.heap[x]? = some (.cells A 70 (0, 0)) → ¬ (x = w.heap.size + 1 ∨ x = w.heap.size ∨ wv.ownBlock = some x) := by
    rintro x A hx (e | e | e)
    · obtain ⟨O, h1, _⟩ := h.orig; subst e; exact tag_ne hx h1 (by decide)
    · obtain ⟨B, h1⟩ := h.wbk.tag; subst e; exact tag_ne hx h1 (by decide)
    · obtain ⟨B, h1⟩ := row_tag h.row e; exact tag_ne hx h1 (by decide)
  have lR : ∀ j, j < X.K → X.R j < wr.heap.size := fun j hj => by obtain ⟨A, hA⟩ := (h.rcs j hj).toRec.tagR; exact lt_heap hA
  have lV : ∀ j, j < X.K → X.V j < wr.heap.size := fun j hj => by obtain ⟨A, hA⟩ := (h.rcs j hj).toRec.tagV; exact lt_heap hA
  have lC : ∀ j, j < X.K → C j < wr.heap.size := fun j hj => by obtain ⟨A, hA, _⟩ := h.clo j hj; exact lt_heap hA
  refine ⟨hb, hw, ?_, ?_, ?_, ?_, ?_, ?_, ?_, ?_, ?_⟩
  · have e : ptrs (X.push r v l i) (X.K + 1) = ptrs X X.K ++ [.pointer (some ⟨r, 0, none⟩)] := by
      simp only [ptrs, Sys.push, if_true]
      congr 1
      exact ptrs_congr _ (fun j hj => if_neg (by omega))
    show W.ownsRow (w.heap.size + 2) 56 1 wv' (X.K + 1) (ptrs (X.push r v l i) (X.K + 1))
    rw [e]
    exact hrow
  · obtain ⟨O, h1, h2⟩ := ho
    obtain ⟨O', h3, h4, h5⟩ := h.orig
    rw [h1] at h3
    simp at h3
    subst h3
    refine ⟨_, h2, by simp [h4], fun j hj => ?_⟩
    have hj' : j < X.K + 1 := hj
    by_cases e : j = X.K
    · subst e
      simp only [Sys.push, if_true]
      exact ⟨cc, hcc, by rw [Array.getElem?_setIfInBounds_self_of_lt (by omega)]⟩
    · simp only [Sys.push, if_neg e]
      obtain ⟨c', h6, h7⟩ := h5 j (by omega)
      exact ⟨c', h6, by rw [Array.getElem?_setIfInBounds_ne (by omega)]; exact h7⟩
  · intro j hj
    have hj' : j < X.K + 1 := hj
    by_cases e : j = X.K
    · subst e
      simp only [Sys.push, if_true]
      exact hr
    · simp only [Sys.push, if_neg e]
      have hq := h.rcs j (by omega)
      obtain ⟨A, hA⟩ := hq.toRec.tagR
      obtain ⟨B, hB⟩ := hq.toRec.tagV
      exact hq.keep ht (hS70 _ _ hA) (hS53 _ _ hB)
  · intro j hj
    have hj' : j < X.K + 1 := hj
    by_cases e : j = X.K
    · subst e
      simp only [Sys.push, if_true]
      exact hc
    · simp only [Sys.push, if_neg e]
      obtain ⟨A, hA, hl⟩ := h.clo j (by omega)
      exact ⟨A, ht.keep hA (hS53 _ _ hA), hl⟩
  · intro j hj
    have hj' : j < X.K + 1 := hj
    by_cases e : j = X.K
    · subst e
      simp only [Sys.push, if_true]
      exact hs
    · simp only [Sys.push, if_neg e]
      exact h.shp j (by omega)
  · intro a b ha hb' hab
    have ha' : a < X.K + 1 := ha
    have hb'' : b < X.K + 1 := hb'
    by_cases e1 : a = X.K <;> by_cases e2 : b = X.K
    · omega
    · simp only [Sys.push, if_pos e1, if_neg e2] at hab
      have := lR b (by omega); omega
    · simp only [Sys.push, if_pos e2, if_neg e1] at hab
      have := lR a (by omega); omega
    · simp only [Sys.push, if_neg e2, if_neg e1] at hab
      exact h.rinj a b (by omega) (by omega) hab
  · intro a b ha hb' hab
    have ha' : a < X.K + 1 := ha
    have hb'' : b < X.K + 1 := hb'
    by_cases e1 : a = X.K <;> by_cases e2 : b = X.K
    · omega
    · simp only [Sys.push, if_pos e1, if_neg e2] at hab
      have := lV b (by omega); omega
    · simp only [Sys.push, if_pos e2, if_neg e1] at hab
      have := lV a (by omega); omega
    · simp only [Sys.push, if_neg e2, if_neg e1] at hab
      exact h.vinj a b (by omega) (by omega) hab
  · intro a b ha hb' hab
    have ha' : a < X.K + 1 := ha
    have hb'' : b < X.K + 1 := hb'
    by_cases e1 : a = X.K <;> by_cases e2 : b = X.K
    · simp only [Sys.push, if_pos e1, if_pos e2] at hab
      exact hcv hab
    · simp only [Sys.push, if_pos e1, if_neg e2] at hab
      have := lV b (by omega); omega
    · simp only [Sys.push, if_pos e2, if_neg e1] at hab
      have := lC a (by omega); omega
    · simp only [Sys.push, if_neg e2, if_neg e1] at hab
      exact h.cv a b (by omega) (by omega) hab
  · intro j hj
    have hj' : j < X.K + 1 := hj
    have hsz := h.bel.size
    by_cases e : j = X.K
    · subst e
      simp only [Sys.push, if_true]
      omega
    · simp only [Sys.push, if_neg e]
      exact h.low j (by omega)
theorem Made.ok {w : World} {n : Nat} {rule id : Int} {D : Nat → RD} {X : Sys} {C : Nat → Nat} {wv : Value} {wr : World} (h : Made w n rule id D X C wv wr) (hn : X.K ≤ 300) : X.Ok id :=
  ⟨hn, h.rinj, h.vinj, fun i hi => (h.shp i hi).own, fun i hi => (h.shp i hi).good⟩
end Go.Proofs.Ybulkavym
