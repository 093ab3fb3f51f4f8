import Derived.Test.YbulkavymRows
import Derived.WalkKit
import Derived.WalkSpells
import Derived.Below
import Derived.Laws.Pointers
import Derived.Laws.LoneSync
import Derived.Laws.EntriesVeiled
import Derived.RegionTactic
import Derived.RegionCalls
import Derived.LaidEql
import Derived.Deep.RegionWith
import Derived.BigQuiet
namespace Go.Proofs.Ybulkavym
open Go.RowKit
set_option linter.unusedVariables false
set_option linter.unusedSimpArgs false

/-- All but the blocks of S is as it was. -/
structure Turns (S : Nat → Prop) (w w' : World) : Prop where
  os : w'.os = w.os
  tape : w'.tape = w.tape
  output : w'.output = w.output
  size : w.heap.size ≤ w'.heap.size
  block : ∀ k, k < w.heap.size → ¬ S k → w'.heap[k]? = w.heap[k]?
theorem Turns.refl (S : Nat → Prop) (w : World) : Turns S w w := ⟨rfl, rfl, rfl, Nat.le_refl _, fun _ _ _ => rfl⟩
theorem Turns.trans {S : Nat → Prop} {a b c : World} (h : Turns S a b) (k : Turns S b c) : Turns S a c :=
  ⟨k.os.trans h.os, k.tape.trans h.tape, k.output.trans h.output, Nat.le_trans h.size k.size, fun i hi hs => (k.block i (Nat.lt_of_lt_of_le hi h.size) hs).trans (h.block i hi hs)⟩
theorem Turns.mono {S T : Nat → Prop} {a b : World} (h : Turns S a b) (hs : ∀ k, S k → T k) : Turns T a b :=
  ⟨h.os, h.tape, h.output, h.size, fun i hi ht => h.block i hi (fun e => ht (hs i e))⟩
theorem Turns.drew {S : Nat → Prop} {a w : World} (h : Turns S a w) : Turns S a w.drew := ⟨h.os, h.tape, h.output, h.size, h.block⟩
theorem Turns.alloc {S : Nat → Prop} {a w : World} (h : Turns S a w) (o : Obj) : Turns S a (w.alloc o) :=
  h.trans ⟨rfl, rfl, rfl, by simp, fun k hk _ => Below.heap_alloc _ _ _ hk⟩
theorem Turns.setCell {S : Nat → Prop} {a w : World} (h : Turns S a w) {p : Addr} (hp : S p.block) (u : Value) : Turns S a (w.setCell p u) :=
  h.trans ⟨rfl, rfl, rfl, by simp [World.setCell], fun k hk hs => Below.heap_setCell _ _ _ _ (fun e => hs (e ▸ hp))⟩
theorem Turns.one {b : Nat} {a w : World} (h : Turns (fun k => k = b) a w) (j : Nat) (u : Value) : Turns (fun k => k = b) a (w.setCell ⟨b, j, none⟩ u) := h.setCell rfl u
/-- A store into a block that was not there. -/
theorem Turns.setNew {S : Nat → Prop} {a w : World} (h : Turns S a w) {p : Addr} (hp : a.heap.size ≤ p.block) (u : Value) : Turns S a (w.setCell p u) :=
  ⟨h.os, h.tape, h.output, by simpa [World.setCell] using h.size, fun k hk hs => (Below.heap_setCell w p u k (by omega)).trans (h.block k hk hs)⟩
theorem Turns.grown {S : Nat → Prop} {a w w' : World} {row : Option Nat} (h : Turns S a w) (hg : w.grownBy w' row) (hr : ∀ k, row = some k → S k ∨ a.heap.size ≤ k) : Turns S a w' :=
  ⟨hg.os.trans h.os, hg.tape.trans h.tape, hg.output.trans h.output, Nat.le_trans h.size hg.size, fun k hk hs => (hg.block k (Nat.lt_of_lt_of_le hk h.size) (fun e => by rcases hr k e.symm with h | h; exact hs h; omega)).trans (h.block k hk hs)⟩
theorem Turns.below {S : Nat → Prop} {a w : World} {B : Nat} (h : Turns S a w) (hB : B ≤ a.heap.size) (hS : ∀ k, S k → B ≤ k) : Below B a w :=
  ⟨h.os, h.tape, h.output, h.size, fun k hk => h.block k (by omega) (fun e => by have := hS k e; omega)⟩
theorem Turns.of_below {S : Nat → Prop} {a w : World} (h : Below a.heap.size a w) : Turns S a w := ⟨h.os, h.tape, h.output, h.size, fun k hk _ => h.block k hk⟩
theorem lt_heap {w : World} {b : Nat} {o : Obj} (h : w.heap[b]? = some o) : b < w.heap.size := by
  rcases Nat.lt_or_ge b w.heap.size with h' | h'
  · exact h'
  · rw [Array.getElem?_eq_none h'] at h; cases h
theorem Turns.keep {S : Nat → Prop} {a w : World} (h : Turns S a w) {b : Nat} {o : Obj} (hb : a.heap[b]? = some o) (hs : ¬ S b) : w.heap[b]? = some o := (h.block b (lt_heap hb) hs).trans hb
theorem heap_set {w : World} {b : Nat} {A : Array Value} {t : TypeId} (h : w.heap[b]? = some (.cells A t (0, 0))) (j : Nat) (u : Value) : (w.setCell ⟨b, j, none⟩ u).heap[b]? = some (.cells (A.setIfInBounds j u) t (0, 0)) := by
  simp [World.setCell, Array.getElem?_modify, h]

/-- A version that owes nothing. -/
structure Ver where
  a : Option Addr
  n : Nat
  c : Nat
  p : Bool
  w : Int
abbrev Ver.b (v : Ver) : Value := .slice v.a v.n v.c
def Ver.agg (v : Ver) : Value := .agg #[v.b, .bool v.p, .int .u64 v.w, .pointer none]
/-- Bytes as the law makes them: nil, or one or more. -/
def Good (v : Value) : Prop := v = .slice none 0 0 ∨ ∃ c s : Nat, 0 < s ∧ s ≤ 2 ∧ v = .slice (some ⟨c, 0, none⟩) s s

/-- The writes' block: its rule, its id, its list of records, its spare bytes. -/
structure WB (b : Nat) (rule id : Int) (wv : Value) (sp : List Value) (w : World) : Prop where
  hb : ∃ A, w.heap[b]? = some (.cells A 44 (0, 0)) ∧ A[1]? = some (.int .u8 rule) ∧ A[2]? = some (.int .u64 id) ∧ A[6]? = some wv ∧ A[77]? = some (.int .i64 sp.length) ∧ A.size = 78 ∧ ∀ j, j < sp.length → A[13 + j]? = sp[j]?
  hl : sp.length ≤ 64
theorem cell_blk {w : World} {b : Nat} {A : Array Value} {t : TypeId} (h : w.heap[b]? = some (.cells A t (0, 0))) (j : Nat) : w.cell? ⟨b, j, none⟩ = A[j]? := cell_of_row w b j A t _ h
theorem frozen_blk {w : World} {b : Nat} {A : Array Value} {t : TypeId} (h : w.heap[b]? = some (.cells A t (0, 0))) (j : Nat) : w.frozen? ⟨b, j, none⟩ = false := frozen_of_row w b j A t h

def lenOf : Value → Nat
  | .slice _ n _ => n
  | _ => 0
def giv (sp : List Value) (v : Value) : List Value := if lenOf v = 0 ∨ 64 ≤ sp.length then sp else sp ++ [v]
theorem get_of_size {A : Array Value} {j : Nat} (h : j < A.size) : ∃ v, A[j]? = some v := ⟨_, Array.getElem?_eq_getElem h⟩

set_option maxRecDepth 100000 in
set_option maxHeartbeats 1000000 in
theorem give_any (b : Nat) (rule id : Int) (wv : Value) (sp : List Value) (v : Value) (hv : Good v) (w : World) (h : WB b rule id wv sp w) :
    Calls Yba.prog 27 #[.pointer (some ⟨b, 13, none⟩), v] w fun e w' => e = .returned (.tuple #[]) ∧ WB b rule id wv (giv sp v) w' ∧ Turns (fun k => k = b) w w' := by
  have H := h
  obtain ⟨⟨A, hA, h1, h2, h6, h77, hsz, hsp⟩, hl⟩ := h
  rcases hv with rfl | ⟨c, s, hs0, hs2, rfl⟩
  · have e : giv sp (.slice none 0 0) = sp := by simp [giv, lenOf]
    rw [e]
    go_enter Yba.func27, Yba.ntmps27
    go_wp2
    go_end0
    exact ⟨rfl, H, Turns.refl _ _⟩
  · have hc77 : w.cell? ⟨b, 77, none⟩ = some (.int .i64 sp.length) := (cell_blk hA 77).trans h77
    have d0 : decide ((0 : Int) < (s : Int)) = true := by simp; omega
    have d0' : decide (0 < s) = true := by simp; omega
    by_cases hlt : sp.length < 64
    · have e : giv sp (.slice (some ⟨c, 0, none⟩) s s) = sp ++ [.slice (some ⟨c, 0, none⟩) s s] := by unfold giv; rw [if_neg]; rintro (h | h); (simp [lenOf] at h; omega); omega
      obtain ⟨x, hx⟩ := get_of_size (A := A) (j := 13 + sp.length) (by omega)
      have hcx : w.cell? ⟨b, 13 + sp.length, none⟩ = some x := (cell_blk hA _).trans hx
      have hz := frozen_blk hA
      have d1 : decide ((sp.length : Int) < 64) = true := by simp; omega
      have d1' : decide (sp.length < 64) = true := by simp; omega
      rw [e]
      have HS : Hid (∀ w', w'.heap[b]? = some (.cells ((A.setIfInBounds (13 + sp.length) (.slice (some ⟨c, 0, none⟩) s s)).setIfInBounds 77 (.int .i64 (sp.length + 1))) 44 (0, 0)) → WB b rule id wv (sp ++ [.slice (some ⟨c, 0, none⟩) s s]) w') := by
        intro w' hw'
        refine ⟨⟨_, hw', ?_, ?_, ?_, ?_, ?_, ?_⟩, by simp; omega⟩
        · rw [Array.getElem?_setIfInBounds_ne (by omega), Array.getElem?_setIfInBounds_ne (by omega)]; exact h1
        · rw [Array.getElem?_setIfInBounds_ne (by omega), Array.getElem?_setIfInBounds_ne (by omega)]; exact h2
        · rw [Array.getElem?_setIfInBounds_ne (by omega), Array.getElem?_setIfInBounds_ne (by omega)]; exact h6
        · rw [Array.getElem?_setIfInBounds_self_of_lt (by simp; omega)]; simp
        · simp [hsz]
        · intro j hj
          simp at hj
          rw [Array.getElem?_setIfInBounds_ne (by omega)]
          by_cases e : j = sp.length
          · subst e; rw [Array.getElem?_setIfInBounds_self_of_lt (by omega)]; simp
          · rw [Array.getElem?_setIfInBounds_ne (by omega), hsp j (by omega), List.getElem?_append_left (by omega)]
      have HA : Hid (w.heap[b]? = some (.cells A 44 (0, 0))) := hA
      generalize hn : sp.length = n at *
      clear H hA h1 h2 h6 h77 hsz hsp hl hx e
      go_enter Yba.func27, Yba.ntmps27
      go_wp2
      go_region
      all_goals (go_wp2; go_end0; refine ⟨rfl, HS.out _ ?_, ?_⟩)
      · exact heap_set (heap_set HA.out _ _) _ _
      · exact (((Turns.refl _ _).one _ _).one _ _).drew
    · have e : giv sp (.slice (some ⟨c, 0, none⟩) s s) = sp := by unfold giv; rw [if_pos (Or.inr (by omega))]
      have d1 : decide ((sp.length : Int) < 64) = false := by simp; omega
      have d1' : decide (sp.length < 64) = false := by simp; omega
      rw [e]
      go_enter Yba.func27, Yba.ntmps27
      go_wp2
      go_end0
      exact ⟨rfl, H, Turns.refl _ _⟩

set_option maxRecDepth 100000 in
theorem drop_any (b : Nat) (id : Int) (wv : Value) (sp : List Value) (v : Value) (hv : Good v) (w : World) (h : WB b 0 id wv sp w) :
    Calls Yba.prog 17 #[.pointer (some ⟨b, 0, none⟩), v] w fun e w' => e = .returned (.tuple #[]) ∧ WB b 0 id wv (giv sp v) w' ∧ Turns (fun k => k = b) w w' := by
  have hg := give_any b 0 id wv sp v hv w h
  obtain ⟨⟨A, hA, h1, h2, h6, h77, hsz, hsp⟩, hl⟩ := h
  have hc1 : w.cell? ⟨b, 1, none⟩ = some (.int .u8 0) := (cell_blk hA 1).trans h1
  have hc13 : w.cell? ⟨b, 13, none⟩ = A[13]? := (cell_blk hA 13)
  clear hA h1 h2 h6 h77 hsz hsp hl
  go_enter Yba.func17, Yba.ntmps17
  go_wp2_with fail
  refine hg.mono ?_
  rintro e w' ⟨rfl, hw, ht⟩
  go_wp2
  go_end0
  exact ⟨rfl, hw, ht⟩

theorem disable (w : World) : (callFunc 22 #[]).run Yba.prog w = .ok (.value (.tuple #[])) w := run_call_mark0 Yba.func22 (by kernel_rfl) (by kernel_rfl) (by kernel_rfl) .disable (by kernel_rfl) w
theorem enable (w : World) : (callFunc 24 #[]).run Yba.prog w = .ok (.value (.tuple #[])) w := run_call_mark0 Yba.func24 (by kernel_rfl) (by kernel_rfl) (by kernel_rfl) .enable (by kernel_rfl) w
theorem acquire (a : Addr) (w : World) : (callFunc 25 #[.pointer (some a)]).run Yba.prog w = .ok (.value (.tuple #[])) w := run_call_marked Yba.func25 (by kernel_rfl) (by kernel_rfl) (by kernel_rfl) .acquire (by kernel_rfl) a w
theorem releaseMerge (a : Addr) (w : World) : (callFunc 28 #[.pointer (some a)]).run Yba.prog w = .ok (.value (.tuple #[])) w := run_call_marked Yba.func28 (by kernel_rfl) (by kernel_rfl) (by kernel_rfl) .releaseMerge (by kernel_rfl) a w

set_option maxRecDepth 100000 in
/-- '(*sync.Mutex).Lock', the lock free. -/
theorem lock_free (a : Addr) (w : World) (hc : w.cell? a = some (.int .i32 0)) (hz : w.frozen? a = false) :
    Calls Yba.prog 13 #[.pointer (some a)] w fun e w' => e = .returned (.tuple #[]) ∧ w' = w.setCell a (.int .i32 1) := by
  have hd := disable
  have he := enable
  have ha := acquire
  have hcas := run_call_cas_hit (P := Yba.prog) Yba.func23 (by kernel_rfl) (by kernel_rfl) (by kernel_rfl) .i32 (by kernel_rfl) (y := 1) hc hz
  have hc' : (w.setCell a (.int .i32 1)).cell? a = some (.int .i32 1) := World.cell?_setCell_same w a _ hc
  have hcv := run_convert_to_unsafe (P := Yba.prog) (src := 79) (dst := 83) Yba.underlying79 Yba.underlying83 (by kernel_rfl) hc'
  go_enter Yba.func13, Yba.ntmps13
  go_wp2
  first | go_end0 | (simp only [Exit.inBlock, Exit.then]; refine bodyPost_ret (results_none rfl _ _ _) rfl ?_) | refine bodyPost_ret (results_none rfl _ _ _) rfl ?_
  go_wp2
  go_end0
  exact ⟨rfl, rfl⟩

set_option maxRecDepth 100000 in
/-- '(*sync.Mutex).Unlock', the lock held and nobody waiting. -/
theorem unlock_held (a : Addr) (w : World) (hc : w.cell? a = some (.int .i32 1)) (hz : w.frozen? a = false) :
    Calls Yba.prog 15 #[.pointer (some a)] w fun e w' => e = .returned (.tuple #[]) ∧ w' = w.setCell a (.int .i32 0) := by
  have hd := disable
  have he := enable
  have hr := releaseMerge
  have hadd := run_call_add (P := Yba.prog) Yba.func29 (by kernel_rfl) (by kernel_rfl) (by kernel_rfl) .i32 (by kernel_rfl) (y := -1) (s := 0) hc hz (by simp [go_sem]; rfl)
  have hcv := run_convert_to_unsafe (P := Yba.prog) (src := 79) (dst := 83) Yba.underlying79 Yba.underlying83 (by kernel_rfl) hc
  go_enter Yba.func15, Yba.ntmps15
  go_wp2
  go_end0
  go_wp2
  go_end0
  exact ⟨rfl, rfl⟩
end Go.Proofs.Ybulkavym
