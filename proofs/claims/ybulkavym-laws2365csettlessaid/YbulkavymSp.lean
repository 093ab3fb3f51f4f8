import Derived.Test.YbulkavymSo
namespace Go.Proofs.Ybulkavym
open Go.RowKit
set_option linter.unusedVariables false
set_option linter.unusedSimpArgs false

/-- The bytes that are not empty. -/
def nz : List Ver → List Value
  | [] => []
  | v :: L => if v.n = 0 then nz L else .slice v.a v.n v.c :: nz L
theorem giv_fold (Ls : List Ver) (W : List Value) : Ls.foldl (fun s (v : Ver) => giv s v.b) (W.take 64) = (W ++ nz Ls).take 64 := by
  induction Ls generalizing W with
  | nil => simp [nz]
  | cons v Ls ih =>
    simp only [List.foldl_cons]
    by_cases h0 : v.n = 0
    · have e : giv (W.take 64) v.b = W.take 64 := by unfold giv; rw [if_pos (Or.inl (by simpa [lenOf] using h0))]
      rw [e, ih]
      simp [nz, h0]
    · by_cases h1 : 64 ≤ W.length
      · have e : giv (W.take 64) v.b = W.take 64 := by unfold giv; rw [if_pos (Or.inr (by simp; omega))]
        rw [e, ih]
        rw [List.take_append_of_le_length h1, List.take_append_of_le_length h1]
      · have e : giv (W.take 64) v.b = (W ++ [v.b]).take 64 := by
          unfold giv
          rw [if_neg (by rintro (h | h); exact h0 (by simpa [lenOf] using h); simp at h; omega)]
          rw [List.take_of_length_le (by omega), List.take_of_length_le (by simp; omega)]
        rw [e, ih]
        simp [nz, h0]
/-- What the law wants to find in the spare bytes, of the first k records. -/
def wl (X : Sys) (D : Nat → RD) (rule : Int) : Nat → List Value
  | 0 => []
  | k + 1 => wl X D rule k ++ (if rule = 0 ∧ (D k).h = true then nz ((X.L k).take (nbOf (D k))) else [])
theorem spk_wl (X : Sys) (D : Nat → RD) (id : Int) (hs : ∀ i, i < X.K → Shape id (D i) (X.L i) (X.I i)) (k : Nat) (hk : k ≤ X.K) : spk X [] k = (wl X D 0 k).take 64 := by
  induction k with
  | zero => rfl
  | succ k ih =>
    have h := hs k (by omega)
    simp only [spk, wl]
    rw [ih (by omega)]
    cases hh : (D k).h
    · have hn := h.no hh
      have e : (X.L k)[X.I k]? = none := List.getElem?_eq_none hn
      simp [gvs, e]
    · obtain ⟨h1, h2⟩ := h.yes hh
      have e : (X.L k)[X.I k]? = some ((X.L k)[X.I k]) := List.getElem?_eq_getElem h2
      simp only [gvs, e]
      rw [giv_fold, h1]
      simp
theorem wl_off (X : Sys) (D : Nat → RD) (rule : Int) (hr : rule ≠ 0) (k : Nat) : wl X D rule k = [] := by
  induction k with
  | zero => rfl
  | succ k ih => simp [wl, ih, hr]
end Go.Proofs.Ybulkavym
