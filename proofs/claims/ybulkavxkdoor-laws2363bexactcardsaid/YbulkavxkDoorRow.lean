import Derived.Test.YbulkavxkDoorMk
namespace Go.Proofs.YbulkavxkDoor
open Go.RowKit
theorem ge_size' {w w' : World} {n : Nat} (hb : Below w.heap.size w w') (h : n < w.heap.size) : n < w'.heap.size := Nat.lt_of_lt_of_le h hb.size
/-- A row of the call's own. -/
structure Row (b : Nat) (A : Array Value) (W : World) : Prop where
  c : ∀ j, W.cell? ⟨b, j, none⟩ = A[j]?
  f : ∀ j, W.frozen? ⟨b, j, none⟩ = false
  s : b < W.heap.size
theorem Row.below {b : Nat} {A : Array Value} {W w' : World} (h : Row b A W) (hb : Below W.heap.size W w') : Row b A w' :=
  ⟨fun j => (hb.cell (p := ⟨b, j, none⟩) h.s).trans (h.c j), fun j => (hb.frozen (p := ⟨b, j, none⟩) h.s).trans (h.f j), ge_size' hb h.s⟩
theorem Row.drew {b : Nat} {A : Array Value} {W : World} (h : Row b A W) : Row b A W.drew := ⟨h.c, h.f, h.s⟩
theorem Row.of {b : Nat} {A : Array Value} {t : TypeId} {W : World} (h : W.heap[b]? = some (.cells A t (0, 0))) : Row b A W :=
  ⟨fun j => cell_of_row W b j A t _ h, fun j => frozen_of_row W b j A t h, lt_of_heap h⟩
theorem Row.new {b : Nat} {A : Array Value} {t : TypeId} {W : World} (h : b = W.heap.size) : Row b A (W.alloc (.cells A t)) := by
  subst h; exact Row.of (heap_alloc_new W _)
theorem Row.old {b : Nat} {A : Array Value} {W : World} (h : Row b A W) (o : Obj) : Row b A (W.alloc o) := h.below ((Below.refl _ _).alloc (Nat.le_refl _) _)
end Go.Proofs.YbulkavxkDoor
