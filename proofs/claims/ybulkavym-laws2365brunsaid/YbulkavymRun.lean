import Derived.Test.YbulkavymDig
import Derived.WalkKit
import Derived.ProofKit
import Derived.OpenShut
import Derived.ShutString
namespace Go.Proofs.Ybulkavym.lawS2365BRun
open Go.ChangeShapes Go.WideShapes Go.ChangeAt Go.RowKit
open Go.ChangeMaps (open_string shut_string)
set_option linter.unusedVariables false      -- a walk need not use every 'w<i>' (that an integer argument fits its kind)

theorem own : ownKnob Yba.prog.godebug = none := by kernel_rfl

/-! ### STEP 1: THE WALK: the Go text returns true. 'Grown w w'': the world has at most new blocks (Derived/RowKit3.lean). Part the cases AHEAD of 'go_enter' where a test parts the walk; take each callee by a contract of your own. -/
theorem dg_pre (l : List UInt8) (j : Nat) (h : j < l.length) (hj : j < dg l) : isD l[j] = true := by
  induction l generalizing j with
  | nil => simp at h
  | cons c l ih =>
    unfold dg at hj
    split at hj
    · cases j with
      | zero => simpa using ‹isD c = true›
      | succ j => rw [List.getElem_cons_succ]; exact ih j (by simpa using h) (by omega)
    · omega
theorem dg_stop (l : List UInt8) (h : dg l < l.length) : isD l[dg l] = false := by
  induction l with
  | nil => simp at h
  | cons c l ih =>
    by_cases e : isD c = true
    · have e2 : dg (c :: l) = dg l + 1 := by simp [dg, e]
      have h' : dg l < l.length := by rw [e2] at h; simpa using h
      have := ih h'
      simp only [e2, List.getElem_cons_succ]
      exact this
    · have e2 : dg (c :: l) = 0 := by simp [dg, e]
      simp only [e2, List.getElem_cons_zero]
      simpa using e

set_option maxHeartbeats 400000 in
theorem walk (a0 : ByteArray) (w0 : a0.size ≤ maxLen) (w : World) :
    Calls Yba.prog 3 #[.string a0] w fun e w' => e = .returned (.bool true) ∧ Grown w w' := by
  by_cases hb : 4096 < a0.size
  · go_enter Yba.func3, Yba.ntmps3
    go_wp2
    go_ret
    exact ⟨rfl, Grown.refl _⟩
  have hle := dg_le a0.data.toList
  rw [len_list] at hle
  have HP : Hid (∀ j, (h : j < a0.size) → j < dg a0.data.toList → isD a0[j] = true) := fun j h hj => dg_pre a0.data.toList j h hj
  have HS : Hid ((h : dg a0.data.toList < a0.size) → isD a0[dg a0.data.toList] = false) := fun h => dg_stop a0.data.toList h
  have c6 := fun w1 => digits_any a0 w1 w0
  clear w0
  generalize dg a0.data.toList = n at *
  have hn : decide ((a0.size : Int) < (n : Int)) = false := by simp; omega
  have hn' : decide (a0.size < n) = false := by simp; omega
  have hb1 : decide ((4096 : Int) < (a0.size : Int)) = false := by simp; omega
  have hn0 : decide ((n : Int) < 0) = false := by simp
  go_enter Yba.func3, Yba.ntmps3
  go_wp2_with (first | (go_at_call 6; refine (c6 _).mono ?_; rintro e w' ⟨rfl, rfl⟩))
  go_loop [4] (fun i => ∃ k : Nat, k ≤ n ∧ i = .int .i64 k) (fun i => n - (intOf i).toNat)
  case atStart => exact ⟨0, Nat.zero_le _, rfl⟩
  case round =>
    obtain ⟨k, hk, rfl⟩ := hrel
    by_cases hlt : k < n
    · have hk2 : k < a0.size := by omega
      have hd : isD a0[k] = true := HP.out k hk2 hlt
      have c7 := fun w1 => isdigit_any a0[k] w1
      rw [hd] at c7
      clear hd
      go_wp2_with (first | (go_at_call 7; refine (c7 _).mono ?_; rintro e w' ⟨rfl, rfl⟩))
      go_round
      case rel =>
        exact ⟨k + 1, by omega, by go_num⟩
      case measure => simp [intOf]; omega
    · obtain rfl : k = n := by omega
      by_cases h2 : k < a0.size
      · have hd : isD a0[k] = false := HS.out h2
        have c7 := fun w1 => isdigit_any a0[k] w1
        rw [hd] at c7
        clear hd
        go_wp2_with (first | (go_at_call 7; refine (c7 _).mono ?_; rintro e w' ⟨rfl, rfl⟩))
        go_ret
        exact ⟨rfl, Grown.refl _⟩
      · go_wp2
        go_ret
        exact ⟨rfl, Grown.refl _⟩

/-! ### THE ROW's STEP: WRITTEN OUT: LEAVE IT -/
set_option maxRecDepth 100000 in
theorem lifted (os : Os) (started : os.Started) (H : Type) (enc : TypeId × Value → H) :
    ReturnsInHanded {} Yba.checked os 3 .any (Rows.lawS2365BRunSpec.pre6 enc Yba.prog Yba.f3 Rows.lawS2365BRunRow.domain false) (Rows.lawS2365BRunSpec.post enc Yba.prog Yba.f3 false true false false) := by
  refine returnsInHanded_of_change (C := Yba.checked) own started (by kernel_rfl) Yba.func3
    (ChangeSpec.witness6 (enc := enc) (C := Yba.checked) false ⟨#[], #[.string ByteArray.empty], []⟩ 8 (by kernel_rfl) (by kernel_rfl) (by kernel_rfl) (by kernel_rfl)) ?_
  intro W base args ds gs before hval0 hW hcnd _
  have hval : ∀ (j : Nat) t v, Yba.f3.params[j]? = some t → args[j]? = some v → Value.okWide Yba.prog W .any base t v := hval0
  have hW' := hW
  obtain ⟨p, q, hA0, hV, rfl, hfz, hnd⟩ := hW
  have hA : DataW.TrodAll enc Yba.prog W 0 (fun _ => true) true Yba.f3.params.toList args.toList ds p := hA0
  rw [Yba.params3] at hA hval
  obtain ⟨v0, vs0, d0, ds0, p0, q0, hargs, rfl, rfl, h0, r0⟩ := trodAll_cons hA
  obtain ⟨rfl, rfl, rfl⟩ := trodAll_nil r0
  obtain rfl : args = #[v0] := by cases args; simp_all
  obtain ⟨rfl, rfl⟩ := trodVars_none hV
  obtain ⟨a0, rfl, rfl, rfl, w0⟩ := open_string Yba.underlying9 (hval 0 9 v0 rfl rfl) h0
  clear hA0 hval0
  simp only [List.append_nil] at hW'
  refine (walk a0 w0 W).mono fun e W' ⟨he, hg⟩ => ?_
  subst he
  exact ⟨_, rfl, post_of_same (pa := []) (pv := []) hW' (fun _ _ _ => (trodAll_cons_mk (shut_bool Yba.underlying4 _) trodAll_mk0)) (fun sp _ => (trodAll_cons_mk (shut_string Yba.underlying9 w0) trodAll_mk0)) (fun _ _ => rfl) rfl
    (hg.frame _) hg.2.1 (ok_one (by kernel_rfl) rfl (okWide_bool_mk Yba.underlying4 _))⟩

theorem over : Rows.lawS2365BRunRow.holds Yba.pinned (OpenSpec.ofChange Rows.lawS2365BRunSpec) :=
  OpenClaim.holds_of_wide 3 Yba.f3 rfl rfl rfl rfl rfl rfl rfl ⟨rfl, rfl, rfl, rfl, rfl⟩ rfl rfl rfl rfl rfl (by kernel_rfl) Yba.func3 (by kernel_rfl)
    (of_decide_eq_true (by kernel_rfl)) (by unfold Func.isWrapper; first | (rw [if_pos (by decide +kernel)]; kernel_rfl) | (rw [if_neg (by decide +kernel)]; exact ⟨rfl, rfl⟩))
    (fun os started H enc _ => lifted os started H enc)

/-- THE STATEMENT -/
theorem proved : Rows.LawS2365BRunSaid :=
  over
end Go.Proofs.Ybulkavym.lawS2365BRun

namespace Go.Proofs.Ybulkavym
theorem run_law : Rows.LawS2365BRunSaid := lawS2365BRun.proved
end Go.Proofs.Ybulkavym
