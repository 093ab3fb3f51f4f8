import Derived.Test.YbulkavymSa
namespace Go.Proofs.Ybulkavym
open Go.RowKit
set_option linter.unusedVariables false
set_option linter.unusedSimpArgs false

theorem ret_int' {k : IntKind} {a b : Int} (h : a = b) : Ending.returned (.int k a) = .returned (.int k b) := by rw [h]
/-- The versions L lie at offset o of the array A. -/
def Lies (A : Array Value) (o : Nat) (L : List Ver) : Prop :=
  ∀ k v, L[k]? = some v → A[o + k * 4]? = some v.b ∧ A[o + k * 4 + 1]? = some (.bool v.p) ∧ A[o + k * 4 + 2]? = some (.int .u64 v.w) ∧ A[o + k * 4 + 3]? = some (.pointer none)
/-- The record's block: its lock's state, its versions. -/
structure RB (b : Nat) (vv : Value) (m : Int) (w : World) : Prop where
  hb : ∃ A, w.heap[b]? = some (.cells A 70 (0, 0)) ∧ A[0]? = some (.int .i32 m) ∧ A[7]? = some vv
theorem at_lt {α : Type} {l : List α} {k : Nat} {v : α} (h : l[k]? = some v) : k < l.length := by
  rcases Nat.lt_or_ge k l.length with h' | h'
  · exact h'
  · rw [List.getElem?_eq_none h'] at h; cases h
theorem at_some {α : Type} (l : List α) {k : Nat} (h : k < l.length) : ∃ v, l[k]? = some v := ⟨_, List.getElem?_eq_getElem h⟩

set_option maxRecDepth 100000 in
set_option maxHeartbeats 1000000 in
theorem find_any (R V o cap : Nat) (L : List Ver) (A : Array Value) (id : Int) (i : Nat) (m : Int) (w : World) (hR : RB R (.slice (some ⟨V, o, none⟩) L.length cap) m w) (hV : w.heap[V]? = some (.cells A 53 (0, 0))) (hA : Lies A o L) (hi : ∀ k v, L[k]? = some v → (v.w = id ↔ k = i)) (hn : L.length ≤ 6) :
    Calls Yba.prog 18 #[.pointer (some ⟨R, 0, none⟩), .int .u64 id] w fun e w' => e = .returned (.int .i64 (if i < L.length then (i : Int) else -1)) ∧ w' = w := by
  obtain ⟨⟨B, hB, _, h7⟩⟩ := hR
  have hc7 : w.cell? ⟨R, 7, none⟩ = some (.slice (some ⟨V, o, none⟩) L.length cap) := (cell_blk hB 7).trans h7
  have HL : Hid (∀ k v, L[k]? = some v → w.cell? ⟨V, o + k * 4 + 2, none⟩ = some (.int .u64 v.w)) := fun k v h => (cell_blk hV _).trans (hA k v h).2.2.1
  have HI : Hid (∀ k v, L[k]? = some v → (v.w = id ↔ k = i)) := hi
  have HAT : Hid (∀ k, k < L.length → ∃ v, L[k]? = some v) := fun k h => at_some L h
  clear hi hA hV hB h7
  generalize L.length = n at *
  obtain ⟨r, hr⟩ : ∃ r : Int, r = if i < n then (i : Int) else -1 := ⟨_, rfl⟩
  rw [← hr]
  have HR : Hid (r = if i < n then (i : Int) else -1) := hr
  clear hr
  go_enter Yba.func18, Yba.ntmps18
  go_wp2
  go_loop [6, 7] (fun p q => ∃ k : Nat, k ≤ n ∧ p = .int .i64 k ∧ q = .int .i64 ((n : Int) - 1 - k) ∧ (∀ j, j < n → (j < k ∨ n ≤ j + k) → j ≠ i)) (fun p _ => n - (intOf p).toNat)
  case atStart => exact ⟨0, Nat.zero_le _, rfl, by simp, fun j h1 h2 => by omega⟩
  case round =>
    obtain ⟨k, hk, rfl, rfl, hall⟩ := hrel
    have HA : Hid (∀ j, j < n → (j < k ∨ n ≤ j + k) → j ≠ i) := hall
    clear hall
    by_cases hlt : (k : Int) ≤ (n : Int) - 1 - k
    · obtain ⟨v1, hv1⟩ := HAT.out (n - 1 - k) (by omega)
      obtain ⟨v2, hv2⟩ := HAT.out k (by omega)
      have e1 := HL.out _ _ hv1
      have e2 := HL.out _ _ hv2
      have HV1 : Hid (v1.w = id ↔ n - 1 - k = i) := HI.out _ _ hv1
      have HV2 : Hid (v2.w = id ↔ k = i) := HI.out _ _ hv2
      have t1 : ((n : Int) - 1 - k).toNat = n - 1 - k := by omega
      clear hv1 hv2
      generalize v1.w = x1 at *
      generalize v2.w = x2 at *
      by_cases q1 : x1 = id
      · have HE : Hid (n - 1 - k = i) := HV1.out.1 q1
        subst q1
        go_wp2
        go_ret
        exact ⟨ret_int' (by rw [HR.out, if_pos (by have := HE.out; omega)]; have := HE.out; omega), rfl⟩
      · by_cases q2 : x2 = id
        · have HE : Hid (k = i) := HV2.out.1 q2
          subst q2
          go_wp2
          go_ret
          exact ⟨ret_int' (by rw [HR.out, if_pos (by have := HE.out; omega)]; have := HE.out; omega), rfl⟩
        · have HN : Hid (n - 1 - k ≠ i ∧ k ≠ i) := ⟨fun h => q1 (HV1.out.2 h), fun h => q2 (HV2.out.2 h)⟩
          go_wp2
          go_round
          case rel =>
            refine ⟨k + 1, by omega, by go_num, by go_num, fun j h1 h2 => ?_⟩
            have := HN.out
            by_cases e : j < k ∨ n ≤ j + k
            · exact HA.out j h1 e
            · omega
          case measure => simp [intOf]; omega
    · have HF : Hid (r = -1) := by
        show r = -1
        rw [HR.out]
        split
        · rename_i h
          exact absurd rfl (HA.out i h (by omega))
        · rfl
      go_wp2
      go_ret
      exact ⟨ret_int' HF.out.symm, rfl⟩
end Go.Proofs.Ybulkavym
