import Derived.Test.YbulkavymRows
import Derived.WalkKit
import Derived.WalkSpells
import Derived.BigQuiet
namespace Go.Proofs.Ybulkavym
open Go.RowKit
set_option linter.unusedVariables false
set_option linter.unusedSimpArgs false

/-- A decimal digit's byte. -/
def isD (c : UInt8) : Bool := decide (48 ≤ (c.toNat : Int)) && decide ((c.toNat : Int) ≤ 57)
/-- How many digits stand at the head. -/
def dg : List UInt8 → Nat
  | [] => 0
  | c :: l => if isD c = true then dg l + 1 else 0
theorem dg_le (l : List UInt8) : dg l ≤ l.length := by
  induction l with
  | nil => simp [dg]
  | cons c l ih => unfold dg; split <;> simp <;> omega
theorem dg_at (l : List UInt8) (k : Nat) (hk : ∀ j, (h : j < l.length) → j < k → isD l[j] = true) (hl : k ≤ l.length) (hs : k = l.length ∨ ∃ h : k < l.length, isD l[k] = false) : dg l = k := by
  induction l generalizing k with
  | nil => simp at hl; subst hl; rfl
  | cons c l ih =>
    cases k with
    | zero =>
      rcases hs with h | ⟨h, h2⟩
      · simp at h
      · simp at h2; simp [dg, h2]
    | succ k =>
      have h0 := hk 0 (by simp) (by omega)
      simp at h0
      simp only [dg, h0, if_true]
      rw [ih k (fun j h hj => by have := hk (j + 1) (by simp; omega) (by omega); rwa [List.getElem_cons_succ] at this) (by simpa using hl) ?_]
      rcases hs with h | ⟨h, h2⟩
      · exact Or.inl (by simpa using h)
      · exact Or.inr ⟨by simpa using h, by simpa using h2⟩

theorem ret_bool {a b : Bool} (h : a = b) : Ending.returned (.bool a) = .returned (.bool b) := by rw [h]
theorem ret_int {k : IntKind} {a b : Int} (h : a = b) : Ending.returned (.int k a) = .returned (.int k b) := by rw [h]
theorem isD_lo {c : UInt8} (h : ¬ 48 ≤ (c.toNat : Int)) : isD c = false := by simp only [isD, h, decide_false, Bool.false_and]
theorem isD_hi {c : UInt8} (h : ¬ (c.toNat : Int) ≤ 57) : isD c = false := by simp only [isD, h, decide_false, Bool.and_false]
theorem isD_yes {c : UInt8} (h : 48 ≤ (c.toNat : Int)) (h2 : (c.toNat : Int) ≤ 57) : isD c = true := by simp only [isD, h, h2, decide_true, Bool.and_self]

set_option maxHeartbeats 400000 in
theorem isdigit_any (c : UInt8) (w : World) : Calls Yba.prog 7 #[.int .u8 c.toNat] w fun e w' => e = .returned (.bool (isD c)) ∧ w' = w := by
  by_cases h : 48 ≤ (c.toNat : Int)
  · have e : isD c = decide ((c.toNat : Int) ≤ 57) := by simp only [isD, h, decide_true, Bool.true_and]
    have HE : Hid (isD c = decide ((c.toNat : Int) ≤ 57)) := e
    clear e
    go_enter Yba.func7, Yba.ntmps7
    go_wp2
    go_ret
    exact ⟨ret_bool HE.out.symm, rfl⟩
  · have e : isD c = false := by simp only [isD, h, decide_false, Bool.false_and]
    have HE : Hid (isD c = false) := e
    clear e
    go_enter Yba.func7, Yba.ntmps7
    go_wp2
    go_ret
    exact ⟨ret_bool HE.out.symm, rfl⟩

theorem len_list (s : ByteArray) : s.data.toList.length = s.size := rfl
theorem getD_at (s : ByteArray) (k : Nat) (h : k < s.size) : s.data.toList[k]'(by rw [len_list]; exact h) = s[k] := rfl

set_option maxHeartbeats 400000 in
theorem digits_any (s : ByteArray) (w : World) (hs : s.size ≤ maxLen) :
    Calls Yba.prog 6 #[.string s] w fun e w' => e = .returned (.int .i64 (dg s.data.toList)) ∧ w' = w := by
  unfold maxLen at hs
  have HL : Hid (s.data.toList.length = s.size) := len_list s
  go_enter Yba.func6, Yba.ntmps6
  go_wp2
  go_loop [3] (fun n => ∃ k : Nat, k ≤ s.size ∧ n = .int .i64 k ∧ ∀ j, (h : j < s.data.toList.length) → j < k → isD s.data.toList[j] = true) (fun n => s.size - (intOf n).toNat)
  case atStart => exact ⟨0, Nat.zero_le _, rfl, fun j _ h => by omega⟩
  case round =>
    obtain ⟨k, hk, rfl, hall⟩ := hrel
    have HA : Hid (∀ j, (h : j < s.data.toList.length) → j < k → isD s.data.toList[j] = true) := hall
    clear hall
    by_cases hlt : k < s.size
    · by_cases h1 : 48 ≤ (s[k].toNat : Int)
      · by_cases h2 : (s[k].toNat : Int) ≤ 57
        · have HD : Hid (isD s[k] = true) := isD_yes h1 h2
          go_wp2
          go_round
          case rel =>
            refine ⟨k + 1, by omega, by go_num, fun j hj hjk => ?_⟩
            by_cases e : j < k
            · exact HA.out j hj e
            · have e2 : j = k := by omega
              subst e2
              rw [getD_at s j hlt]
              exact HD.out
          case measure => simp [intOf]; omega
        · have HF : Hid (dg s.data.toList = k) := dg_at s.data.toList k HA.out (by rw [HL.out]; exact hk) (Or.inr ⟨by rw [HL.out]; exact hlt, by rw [getD_at s k hlt]; exact isD_hi h2⟩)
          go_wp2
          go_ret
          exact ⟨ret_int (by rw [HF.out]), rfl⟩
      · have HF : Hid (dg s.data.toList = k) := dg_at s.data.toList k HA.out (by rw [HL.out]; exact hk) (Or.inr ⟨by rw [HL.out]; exact hlt, by rw [getD_at s k hlt]; exact isD_lo h1⟩)
        go_wp2
        go_ret
        exact ⟨ret_int (by rw [HF.out]), rfl⟩
    · have HF : Hid (dg s.data.toList = k) := dg_at s.data.toList k HA.out (by rw [HL.out]; exact hk) (Or.inl (by rw [HL.out]; omega))
      go_wp2
      go_ret
      exact ⟨ret_int (by rw [HF.out]), rfl⟩
end Go.Proofs.Ybulkavym
