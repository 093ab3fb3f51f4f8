import Derived.Test.YbulkavxyFmtF
import Derived.WalkKit
import Derived.WalkSpells
import Derived.Laws.EntriesVeiled
import Derived.Deep.QuietTactic
import Derived.BigQuiet
namespace Go.Proofs.YbulkavxyFmt
open Go.RowKit Go.Extern.Stop Go.Stop Go.Extern
set_option linter.unusedVariables false
set_option linter.unusedSimpArgs false
attribute [local go_sem] call11 guard_ fmt0 fmt0r op3_100w op3_100 ptr55 elem55 isError55 ptr43 elem43 isError43

theorem mkf (fn : Fn) (first cap : Array Value) (w : World) : (Instr.makeFunc fn first cap).run Ybaf.prog w = .ok (.func fn first cap) w := rfl

theorem lt_of_heap {w : World} {k : Nat} {o : Obj} (h : w.heap[k]? = some o) : k < w.heap.size := by
  rcases Nat.lt_or_ge k w.heap.size with h' | h'
  · exact h'
  · rw [Array.getElem?_eq_none h'] at h; cases h
theorem ge_size {w w' : World} {n : Nat} (hb : Below w.heap.size w w') (h : n < w.heap.size) : n < w'.heap.size := Nat.lt_of_lt_of_le h hb.size
/-- A row of the call's own. -/
structure Row (b : Nat) (A : Array Value) (W : World) : Prop where
  c : ∀ j, W.cell? ⟨b, j, none⟩ = A[j]?
  f : ∀ j, W.frozen? ⟨b, j, none⟩ = false
  s : b < W.heap.size
theorem Row.below {b : Nat} {A : Array Value} {W w' : World} (h : Row b A W) (hb : Below W.heap.size W w') : Row b A w' :=
  ⟨fun j => (hb.cell (p := ⟨b, j, none⟩) h.s).trans (h.c j), fun j => (hb.frozen (p := ⟨b, j, none⟩) h.s).trans (h.f j), ge_size hb h.s⟩
theorem Row.drew {b : Nat} {A : Array Value} {W : World} (h : Row b A W) : Row b A W.drew := ⟨h.c, h.f, h.s⟩
theorem Row.of {b : Nat} {A : Array Value} {t : TypeId} {W : World} (h : W.heap[b]? = some (.cells A t (0, 0))) : Row b A W :=
  ⟨fun j => cell_of_row W b j A t _ h, fun j => frozen_of_row W b j A t h, lt_of_heap h⟩
theorem Row.new {b : Nat} {A : Array Value} {t : TypeId} {W : World} (h : b = W.heap.size) : Row b A (W.alloc (.cells A t)) := by
  subst h; exact Row.of (heap_alloc_new W _)
theorem Row.old {b : Nat} {A : Array Value} {W : World} (h : Row b A W) (o : Obj) : Row b A (W.alloc o) := h.below ((Below.refl _ _).alloc (Nat.le_refl _) _)
theorem bup2 {w w' : World} {o o2 : Obj} (hb : Below ((w.alloc o).alloc o2).heap.size ((w.alloc o).alloc o2) w') : Below w.heap.size w w' :=
  (((Below.refl _ _).alloc (Nat.le_refl _) _).alloc (by simp) _).trans (hb.mono (by simp; omega))

set_option maxHeartbeats 400000 in
theorem clo_lo0 (F : Interp) (n : Int) (a o : Addr) (b : Nat) (s : ByteArray) (w : World) (h : n < 1) (hF : F.answers w.tape) (hg : w.cell? ⟨0, 0, none⟩ = some (.iface 55 (.pointer (some a)))) (hs : w.cell? a = some (.string s)) (hb : w.cell? ⟨b, 0, none⟩ = some (.int .i64 n)) :
    Calls Ybaf.prog 7 #[.pointer (some o), .pointer (some ⟨b, 0, none⟩)] w fun e w' => ∃ t, e = .returned (.iface 43 (.pointer (some ⟨w.heap.size + 1, 0, none⟩))) ∧
      w' = ((w.alloc (.cells #[.iface 55 (.pointer (some a)), .iface 3 (.int .i64 n)] 20)).alloc (.cells #[.string t, .iface 55 (.pointer (some a))] 83)).drew := by
  have hF' : ∀ i name reading k range, w.tape i (.extern (word name reading k) range) = F name reading k := hF
  have h0 : 0 < w.heap.size := block_lt_of_cell hg
  have hlt : a.block < w.heap.size := block_lt_of_cell hs
  have past : ∀ (x : Obj), (w.alloc x).cell? a = some (.string s) := fun x => by
    rw [← hs]; simp only [World.cell?, World.alloc, Array.getElem?_push, Nat.ne_of_lt hlt, if_false]
  have hop := fun x => opPlain55_119w "fmt.errorf" a s _ (past x)
  clear hF
  go_enter Ybaf.func7, Ybaf.ntmps7
  go_wp2
  go_ret
  exact ⟨_, rfl, rfl⟩

/-- The option, handed a number below 1: a new *fmt.wrapError that holds the sentinel; nothing that was there has turned. -/
theorem clo_lo (F : Interp) (n : Int) (a o : Addr) (b : Nat) (s : ByteArray) (w : World) (h : n < 1) (hF : F.answers w.tape) (hg : w.cell? ⟨0, 0, none⟩ = some (.iface 55 (.pointer (some a)))) (hs : w.cell? a = some (.string s)) (hb : w.cell? ⟨b, 0, none⟩ = some (.int .i64 n)) :
    Calls Ybaf.prog 7 #[.pointer (some o), .pointer (some ⟨b, 0, none⟩)] w fun e w' => ∃ k t, e = .returned (.iface 43 (.pointer (some ⟨k, 0, none⟩))) ∧
      w.heap.size ≤ k ∧ w'.heap[k]? = some (.cells #[.string t, .iface 55 (.pointer (some a))] 83 (0, 0)) ∧ Below w.heap.size w w' :=
  (clo_lo0 F n a o b s w h hF hg hs hb).mono fun e w' ⟨t, he, hw⟩ => by
    subst hw
    exact ⟨w.heap.size + 1, t, he, by omega, heap_alloc2_new _ _ _, (bup2 (Below.refl _ _)).drew⟩

set_option maxHeartbeats 400000 in
theorem twice_hi (n : Int) (w : World) (h : 1 ≤ n) (h2 : n ≤ 9223372036854775807) :
    Calls Ybaf.prog 4 #[.int .i64 n] w fun e w' => e = .returned (.bool true) ∧ Below w.heap.size w w' := by
  have hm := mkf
  have hn : ¬ n < 1 := by omega
  go_enter Ybaf.func4, Ybaf.ntmps4
  go_wp2
  go_quiet (fail)
  go_wp2
  go_ret
  refine ⟨rfl, ?_⟩
  have hb : Below w.heap.size w ((w.alloc (.cells #[.int .i64 n, .int .i64 0, .nilFunc, .int .i64 0, .int .i64 0, .int .i64 0] 25)).alloc (.cells #[.int .i64 n] 3)) := bup2 (Below.refl _ _)
  exact ⟨hb.os, hb.tape, hb.output, hb.size, hb.block⟩

set_option maxHeartbeats 1000000 in
theorem twice_lo (F : Interp) (n : Int) (a : Addr) (s : ByteArray) (w : World) (h : n < 1) (hF : F.answers w.tape) (hg : w.cell? ⟨0, 0, none⟩ = some (.iface 55 (.pointer (some a)))) (hs : w.cell? a = some (.string s)) :
    Calls Ybaf.prog 4 #[.int .i64 n] w fun e w' => e = .returned (.bool true) ∧ Below w.heap.size w w' := by
  have c7 : ∀ (o : Addr) (b : Nat) (w1 : World), Below w.heap.size w w1 → w1.cell? ⟨b, 0, none⟩ = some (.int .i64 n) → _ := fun o b w1 (hb : Below w.heap.size w w1) hc =>
    clo_lo F n a o b s w1 h (by rw [hb.tape]; exact hF) ((hb.cell (block_lt_of_cell hg)).trans hg) ((hb.cell (block_lt_of_cell hs)).trans hs) hc
  have hm := mkf
  clear hF hg hs
  go_enter Ybaf.func4, Ybaf.ntmps4
  go_wp2_with (first | (go_at_call 5; go_in) | fail)
  have R1 : Row w.heap.size #[.int .i64 0, .int .i64 0, .nilFunc, .int .i64 0, .int .i64 0, .int .i64 0] ((w.alloc (.cells #[.int .i64 0, .int .i64 0, .nilFunc, .int .i64 0, .int .i64 0, .int .i64 0] 25)).alloc (.cells #[.int .i64 n] 3)) := (Row.new rfl).old _
  have R2 : Row (w.heap.size + 1) #[.int .i64 n] ((w.alloc (.cells #[.int .i64 0, .int .i64 0, .nilFunc, .int .i64 0, .int .i64 0, .int .i64 0] 25)).alloc (.cells #[.int .i64 n] 3)) := Row.new (by simp)
  have hb : Below w.heap.size w ((w.alloc (.cells #[.int .i64 0, .int .i64 0, .nilFunc, .int .i64 0, .int .i64 0, .int .i64 0] 25)).alloc (.cells #[.int .i64 n] 3)) := bup2 (Below.refl _ _)
  generalize (w.alloc (.cells #[.int .i64 0, .int .i64 0, .nilFunc, .int .i64 0, .int .i64 0, .int .i64 0] 25)).alloc (.cells #[.int .i64 n] 3) = W at *
  refine (c7 _ _ _ hb (R2.c 0)).mono ?_
  rintro e w1 ⟨k, t, rfl, _, _, g⟩
  replace R1 := R1.below g
  replace R2 := R2.below g
  replace hb := hb.trans (g.mono hb.size)
  clear g
  have k1 := R1.c
  go_wp2_with fail
  refine (c7 _ _ _ hb (R2.c 0)).mono ?_
  rintro e w2 ⟨k', t', rfl, _, _, g⟩
  replace R1 := R1.below g
  replace hb := hb.trans (g.mono hb.size)
  clear g
  have k2 := R1.c
  go_wp2_with fail
  go_quiet (fail)
  go_wp2
  go_ret
  exact ⟨rfl, ⟨hb.os, hb.tape, hb.output, hb.size, hb.block⟩⟩
end Go.Proofs.YbulkavxyFmt
