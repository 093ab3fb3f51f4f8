import Derived.Test.YbulkavymSc
namespace Go.Proofs.Ybulkavym
open Go.RowKit
set_option linter.unusedVariables false
set_option linter.unusedSimpArgs false

def VerAt (A : Array Value) (q : Nat) (v : Ver) : Prop := A[q]? = some v.b ∧ A[q + 1]? = some (.bool v.p) ∧ A[q + 2]? = some (.int .u64 v.w) ∧ A[q + 3]? = some (.pointer none)
theorem lies_iff {A : Array Value} {o : Nat} {L : List Ver} : Lies A o L ↔ ∀ k v, L[k]? = some v → VerAt A (o + k * 4) v := Iff.rfl
def setVer (A : Array Value) (q : Nat) (v : Ver) : Array Value := (((A.setIfInBounds q v.b).setIfInBounds (q + 1) (.bool v.p)).setIfInBounds (q + 2) (.int .u64 v.w)).setIfInBounds (q + 3) (.pointer none)
theorem setVer_size (A : Array Value) (q : Nat) (v : Ver) : (setVer A q v).size = A.size := by simp [setVer]
theorem setVer_ne {A : Array Value} {q : Nat} {v : Ver} {j : Nat} (h : j < q ∨ q + 4 ≤ j) : (setVer A q v)[j]? = A[j]? := by
  unfold setVer
  rw [Array.getElem?_setIfInBounds_ne (by omega), Array.getElem?_setIfInBounds_ne (by omega), Array.getElem?_setIfInBounds_ne (by omega), Array.getElem?_setIfInBounds_ne (by omega)]
theorem VerAt.ne {A : Array Value} {q p : Nat} {v u : Ver} (h : VerAt A q v) (hp : q + 4 ≤ p ∨ p + 4 ≤ q) : VerAt (setVer A p u) q v := by
  obtain ⟨h0, h1, h2, h3⟩ := h
  exact ⟨by rw [setVer_ne (by omega)]; exact h0, by rw [setVer_ne (by omega)]; exact h1, by rw [setVer_ne (by omega)]; exact h2, by rw [setVer_ne (by omega)]; exact h3⟩
theorem VerAt.same {A : Array Value} {q : Nat} {v : Ver} (h : q + 4 ≤ A.size) : VerAt (setVer A q v) q v := by
  unfold setVer
  refine ⟨?_, ?_, ?_, ?_⟩
  · rw [Array.getElem?_setIfInBounds_ne (by omega), Array.getElem?_setIfInBounds_ne (by omega), Array.getElem?_setIfInBounds_ne (by omega), Array.getElem?_setIfInBounds_self_of_lt (by omega)]
  · rw [Array.getElem?_setIfInBounds_ne (by omega), Array.getElem?_setIfInBounds_ne (by omega), Array.getElem?_setIfInBounds_self_of_lt (by simp; omega)]
  · rw [Array.getElem?_setIfInBounds_ne (by omega), Array.getElem?_setIfInBounds_self_of_lt (by simp; omega)]
  · rw [Array.getElem?_setIfInBounds_self_of_lt (by simp; omega)]
/-- The four stores of one version. -/
def putVer (w : World) (V q : Nat) (v : Ver) : World := (((w.setCell ⟨V, q, none⟩ v.b).setCell ⟨V, q + 1, none⟩ (.bool v.p)).setCell ⟨V, q + 2, none⟩ (.int .u64 v.w)).setCell ⟨V, q + 3, none⟩ (.pointer none)
theorem heap_putVer {w : World} {V : Nat} {A : Array Value} (h : w.heap[V]? = some (.cells A 53 (0, 0))) (q : Nat) (v : Ver) : (putVer w V q v).heap[V]? = some (.cells (setVer A q v) 53 (0, 0)) := heap_set (heap_set (heap_set (heap_set h _ _) _ _) _ _) _ _
theorem turns_putVer (w : World) (V q : Nat) (v : Ver) : Turns (fun k => k = V) w (putVer w V q v) := ((((Turns.refl _ _).one _ _).one _ _).one _ _).one _ _
def zVer : Ver := ⟨none, 0, 0, false, 0⟩
def zArr : Array Value := #[.slice none 0 0, .bool false, .int .u64 0, .pointer none]

/-- While the tail is being moved down. -/
structure CutA (w : World) (V o j k : Nat) (L : List Ver) (sz : Nat) (wr : World) : Prop where
  hA : ∃ A, wr.heap[V]? = some (.cells A 53 (0, 0)) ∧ A.size = sz ∧ (∀ t v, t < k - j → L[j + t]? = some v → VerAt A (o + t * 4) v) ∧ (∀ t v, k ≤ t → L[t]? = some v → VerAt A (o + t * 4) v)
  hz : wr.heap[w.heap.size]? = some (.cells zArr 53 (0, 0))
  ht : Turns (fun k => k = V) w wr
/-- While places are zeroed: the versions M stand at o. -/
structure CutB (w : World) (V o : Nat) (M : List Ver) (sz : Nat) (wr : World) : Prop where
  hA : ∃ A, wr.heap[V]? = some (.cells A 53 (0, 0)) ∧ A.size = sz ∧ Lies A o M
  hz : wr.heap[w.heap.size]? = some (.cells zArr 53 (0, 0))
  ht : Turns (fun k => k = V) w wr
theorem CutA.step {w wr : World} {V o j k sz : Nat} {L : List Ver} {v : Ver} (h : CutA w V o j k L sz wr) (hV : V < w.heap.size) (hv : L[k]? = some v) (hjk : j ≤ k) (hm : L.length - j ≤ j) (hs : o + L.length * 4 ≤ sz) : CutA w V o j (k + 1) L sz (putVer wr V (o + (k - j) * 4) v) := by
  obtain ⟨⟨A, hA, hsz, h1, h2⟩, hz, ht⟩ := h
  have hkl := at_lt hv
  refine ⟨⟨_, heap_putVer hA _ v, by rw [setVer_size, hsz], fun t u ht' hu => ?_, fun t u ht' hu => ?_⟩, (turns_putVer wr V _ v).keep hz (by omega), ht.trans (turns_putVer wr V _ v)⟩
  · by_cases e : t = k - j
    · subst e
      have e2 : j + (k - j) = k := by omega
      rw [e2, hv] at hu
      cases hu
      exact VerAt.same (by omega)
    · exact (h1 t u (by omega) hu).ne (by omega)
  · exact (h2 t u (by omega) hu).ne (by omega)
theorem CutB.step {w wr : World} {V o sz p : Nat} {M : List Ver} {v : Ver} (h : CutB w V o M sz wr) (hV : V < w.heap.size) (hp : o + M.length * 4 ≤ p ∨ p + 4 ≤ o) : CutB w V o M sz (putVer wr V p v) := by
  obtain ⟨⟨A, hA, hsz, h1⟩, hz, ht⟩ := h
  refine ⟨⟨_, heap_putVer hA _ v, by rw [setVer_size, hsz], fun t u hu => VerAt.ne (h1 t u hu) ?_⟩, (turns_putVer wr V _ v).keep hz (by omega), ht.trans (turns_putVer wr V _ v)⟩
  have := at_lt hu
  omega
/-- What a version's cells hold. -/
structure Cells4 (wr : World) (V q : Nat) (x0 x1 x2 x3 : Value) : Prop where
  c0 : wr.cell? ⟨V, q, none⟩ = some x0
  c1 : wr.cell? ⟨V, q + 1, none⟩ = some x1
  c2 : wr.cell? ⟨V, q + 2, none⟩ = some x2
  c3 : wr.cell? ⟨V, q + 3, none⟩ = some x3
theorem cells4_any {wr : World} {V q : Nat} {A : Array Value} {t : TypeId} (h : wr.heap[V]? = some (.cells A t (0, 0))) (hq : q + 4 ≤ A.size) : ∃ x0 x1 x2 x3, Cells4 wr V q x0 x1 x2 x3 := by
  obtain ⟨x0, h0⟩ := get_of_size (A := A) (j := q) (by omega)
  obtain ⟨x1, h1⟩ := get_of_size (A := A) (j := q + 1) (by omega)
  obtain ⟨x2, h2⟩ := get_of_size (A := A) (j := q + 2) (by omega)
  obtain ⟨x3, h3⟩ := get_of_size (A := A) (j := q + 3) (by omega)
  exact ⟨x0, x1, x2, x3, (cell_blk h _).trans h0, (cell_blk h _).trans h1, (cell_blk h _).trans h2, (cell_blk h _).trans h3⟩
theorem VerAt.cells {wr : World} {V q : Nat} {A : Array Value} {t : TypeId} {v : Ver} (hv : VerAt A q v) (h : wr.heap[V]? = some (.cells A t (0, 0))) : Cells4 wr V q v.b (.bool v.p) (.int .u64 v.w) (.pointer none) :=
  ⟨(cell_blk h _).trans hv.1, (cell_blk h _).trans hv.2.1, (cell_blk h _).trans hv.2.2.1, (cell_blk h _).trans hv.2.2.2⟩

set_option maxRecDepth 100000 in
set_option maxHeartbeats 2000000 in
theorem cut_any (V o cap j : Nat) (L : List Ver) (A : Array Value) (w : World) (hV : w.heap[V]? = some (.cells A 53 (0, 0))) (hA : Lies A o L) (hsz : o + cap * 4 ≤ A.size) (hn : L.length ≤ cap) (hc : cap ≤ 6) (hj : j ≤ L.length) :
    Calls Yba.prog 19 #[.slice (some ⟨V, o, none⟩) L.length cap, .int .i64 0, .int .i64 j] w fun e w' =>
      ∃ o' cap' A', e = .returned (.slice (some ⟨V, o', none⟩) (L.length - j) cap') ∧ w'.heap[V]? = some (.cells A' 53 (0, 0)) ∧ Lies A' o' (L.drop j) ∧ o' + cap' * 4 ≤ A'.size ∧ L.length - j ≤ cap' ∧ cap' ≤ 6 ∧ Turns (fun k => k = V) w w' := by
  have hVs := lt_heap hV
  have HLA : Hid (Lies A o L) := hA
  have HV : Hid (w.heap[V]? = some (.cells A 53 (0, 0))) := hV
  have HAT : Hid (∀ k, k < L.length → ∃ v, L[k]? = some v) := fun k h => at_some L h
  have HD : Hid ((L.drop j).length = L.length - j) := List.length_drop
  clear hA hV
  by_cases hd : L.length - j ≤ j
  · have d1 : decide ((L.length : Int) - (j : Int) ≤ (j : Int)) = true := by simp; omega
    have HE : Hid (∀ wr, CutA w V o j L.length L A.size wr → CutB w V o (L.drop j) A.size wr) := by
      rintro wr ⟨⟨B, h1, h2, h3, h4⟩, hz, ht⟩
      refine ⟨⟨B, h1, h2, fun t v hv => h3 t v ?_ (by rwa [List.getElem?_drop] at hv)⟩, hz, ht⟩
      have := at_lt hv
      rw [HD.out] at this
      exact this
    have HS : Hid (∀ wr k v, CutA w V o j k L A.size wr → L[k]? = some v → j ≤ k → CutA w V o j (k + 1) L A.size (putVer wr V (o + (k - j) * 4) v)) := fun wr k v h hv hjk => h.step hVs hv hjk hd (by omega)
    have HT : Hid (∀ wr p, CutB w V o (L.drop j) A.size wr → o + (L.length - j) * 4 ≤ p → CutB w V o (L.drop j) A.size (putVer wr V p zVer)) := fun wr p h hp => h.step hVs (by rw [HD.out]; exact Or.inl hp)
    generalize hN : L.length = n at *
    generalize hS : A.size = sz at *
    generalize hM : L.drop j = M at *
    go_enter Yba.func19, Yba.ntmps19
    go_wp2
    go_loopw [9] (fun p wr => ∃ k : Nat, k ≤ n ∧ j ≤ k ∧ p = .int .i64 k ∧ CutA w V o j k L sz wr) (fun p _ => n - (intOf p).toNat)
    case atStart =>
      refine ⟨j, hj, Nat.le_refl _, rfl, ⟨⟨A, (Below.heap_alloc _ _ _ hVs).trans HV.out, hS, fun t v h => by omega, fun t v h hv => HLA.out t v hv⟩, heap_alloc_new w _, (Turns.refl _ _).alloc _⟩⟩
    case round =>
      obtain ⟨k, hk, hjk, rfl, hca⟩ := hrel
      have HC : Hid (CutA w V o j k L sz wr) := hca
      obtain ⟨⟨B, hB, hBs, hB1, hB2⟩, hz, ht⟩ := hca
      by_cases hlt : k < n
      · obtain ⟨v, hv⟩ := HAT.out k hlt
        obtain ⟨c0, c1, c2, c3⟩ := VerAt.cells (hB2 k v (Nat.le_refl _) hv) hB
        obtain ⟨x0, x1, x2, x3, ⟨e0, e1, e2, e3⟩⟩ := cells4_any (q := o + (k - j) * 4) hB (by omega)
        have hz1 := frozen_blk hB
        have HN : Hid (CutA w V o j (k + 1) L sz (putVer wr V (o + (k - j) * 4) v)) := HS.out wr k v HC.out hv hjk
        have t1 : ((k : Int) - (j : Int)).toNat = k - j := by omega
        clear hB hB1 hB2 hz ht hv
        obtain ⟨va, vn, vc, vp, vw⟩ := v
        go_wp2
        go_roundw
        case rel => exact ⟨k + 1, by omega, by omega, by go_num, HN.out⟩
        case measure => simp [intOf]; omega
      · obtain rfl : k = n := by omega
        have HB : Hid (CutB w V o M sz wr) := HE.out wr HC.out
        clear hB hB1 hB2 hz ht
        go_wp2
        go_loopw [10] (fun p wx => ∃ q : Nat, q ≤ k ∧ k - j ≤ q ∧ p = .int .i64 q ∧ CutB w V o M sz wx) (fun p _ => k - (intOf p).toNat)
        case atStart => exact ⟨k - j, by omega, Nat.le_refl _, by go_num, HB.out⟩
        case round =>
          obtain ⟨q, hq, hjq, rfl, hcb⟩ := hrel
          have HC2 : Hid (CutB w V o M sz wr) := hcb
          obtain ⟨⟨B2, hB2, hBs2, hB3⟩, hz2, ht2⟩ := hcb
          by_cases hlt2 : q < k
          · obtain ⟨x0, x1, x2, x3, ⟨e0, e1, e2, e3⟩⟩ := cells4_any (q := o + q * 4) hB2 (by omega)
            have hz1 := frozen_blk hB2
            have z0 : wr.cell? ⟨w.heap.size, 0, none⟩ = some (.slice none 0 0) := cell_blk hz2 0
            have z1 : wr.cell? ⟨w.heap.size, 1, none⟩ = some (.bool false) := cell_blk hz2 1
            have z2 : wr.cell? ⟨w.heap.size, 2, none⟩ = some (.int .u64 0) := cell_blk hz2 2
            have z3 : wr.cell? ⟨w.heap.size, 3, none⟩ = some (.pointer none) := cell_blk hz2 3
            have HN : Hid (CutB w V o M sz (putVer wr V (o + q * 4) zVer)) := HT.out _ _ HC2.out (by omega)
            clear hB2 hB3 hz2 ht2
            go_wp2
            go_roundw
            case rel => exact ⟨q + 1, by omega, by omega, by go_num, HN.out⟩
            case measure => simp [intOf]; omega
          · have HB3 : Hid (Lies B2 o M) := hB3
            clear hB3 hz2
            go_wp2
            go_ret
            exact ⟨o, cap, B2, rfl, hB2, HB3.out, by omega, by omega, hc, ht2⟩
  · have d1 : decide ((L.length : Int) - (j : Int) ≤ (j : Int)) = false := by simp; omega
    have H0 : Hid (∀ wr, wr.heap[V]? = some (.cells A 53 (0, 0)) → wr.heap[w.heap.size]? = some (.cells zArr 53 (0, 0)) → Turns (fun k => k = V) w wr → CutB w V (o + j * 4) (L.drop j) A.size wr) := by
      intro wr h1 h2 h3
      refine ⟨⟨A, h1, rfl, fun t v hv => ?_⟩, h2, h3⟩
      rw [List.getElem?_drop] at hv
      have := HLA.out (j + t) v hv
      rw [show o + j * 4 + t * 4 = o + (j + t) * 4 by omega]
      exact this
    have HT : Hid (∀ wr p, CutB w V (o + j * 4) (L.drop j) A.size wr → p + 4 ≤ o + j * 4 → CutB w V (o + j * 4) (L.drop j) A.size (putVer wr V p zVer)) := fun wr p h hp => h.step hVs (Or.inr hp)
    generalize hN : L.length = n at *
    generalize hS : A.size = sz at *
    generalize hM : L.drop j = M at *
    go_enter Yba.func19, Yba.ntmps19
    go_wp2
    go_loopw [11] (fun p wr => p = .int .i64 (-1) ∧ CutB w V (o + j * 4) M sz wr) (fun _ _ => 0)
    case atStart => exact ⟨rfl, H0.out _ ((Below.heap_alloc _ _ _ hVs).trans HV.out) (heap_alloc_new w _) ((Turns.refl _ _).alloc _)⟩
    case round =>
      obtain ⟨rfl, hca⟩ := hrel
      have HC : Hid (CutB w V (o + j * 4) M sz wr) := hca
      clear hca
      go_wp2
      go_loopw [80] (fun p wx => ∃ q : Nat, q ≤ j ∧ p = .int .i64 q ∧ CutB w V (o + j * 4) M sz wx) (fun p _ => j - (intOf p).toNat)
      case atStart => exact ⟨0, Nat.zero_le _, rfl, HC.out⟩
      case round =>
        obtain ⟨q, hq, rfl, hcb⟩ := hrel
        have HC2 : Hid (CutB w V (o + j * 4) M sz wr) := hcb
        obtain ⟨⟨B2, hB2, hBs2, hB3⟩, hz2, ht2⟩ := hcb
        by_cases hlt2 : q < j
        · obtain ⟨x0, x1, x2, x3, ⟨e0, e1, e2, e3⟩⟩ := cells4_any (q := o + q * 4) hB2 (by omega)
          have hz1 := frozen_blk hB2
          have z0 : wr.cell? ⟨w.heap.size, 0, none⟩ = some (.slice none 0 0) := cell_blk hz2 0
          have z1 : wr.cell? ⟨w.heap.size, 1, none⟩ = some (.bool false) := cell_blk hz2 1
          have z2 : wr.cell? ⟨w.heap.size, 2, none⟩ = some (.int .u64 0) := cell_blk hz2 2
          have z3 : wr.cell? ⟨w.heap.size, 3, none⟩ = some (.pointer none) := cell_blk hz2 3
          have HN : Hid (CutB w V (o + j * 4) M sz (putVer wr V (o + q * 4) zVer)) := HT.out _ _ HC2.out (by omega)
          clear hB2 hB3 hz2 ht2
          go_wp2
          go_roundw
          case rel => exact ⟨q + 1, by omega, by go_num, HN.out⟩
          case measure => simp [intOf]; omega
        · have HB3 : Hid (Lies B2 (o + j * 4) M) := hB3
          clear hB3 hz2
          go_wp2
          go_ret
          exact ⟨o + j * 4, cap - j, B2, rfl, hB2, HB3.out, by omega, by omega, by omega, ht2⟩
end Go.Proofs.Ybulkavym
