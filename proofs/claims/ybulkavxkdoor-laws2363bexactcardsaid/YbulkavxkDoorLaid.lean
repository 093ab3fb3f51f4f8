import Derived.Test.YbulkavxkDoorIs
import Derived.ProofKit
import Derived.LaidMore
import Derived.OpenShut
import Derived.Stop.Joined
namespace Go.Proofs.YbulkavxkDoor
open Go.ChangeShapes Go.WideShapes Go.ChangeAt Go.RowKit
set_option linter.unusedVariables false

theorem own : ownKnob Ybad.prog.godebug = none := by kernel_rfl
/-- The three listed variables' names, off the given row. -/
def nz4 : String := Rows.lawS2363BExactRow.named.getD 0 ""
def nz6 : String := Rows.lawS2363BExactRow.named.getD 1 ""
def nz0 : String := Rows.lawS2363BExactRow.named.getD 2 ""
theorem gz4 : Ybad.prog.globalNamed nz4 = some 0 := by kernel_rfl
theorem gz6 : Ybad.prog.globalNamed nz6 = some 1 := by kernel_rfl
theorem gz0 : Ybad.prog.globalNamed nz0 = some 2 := by kernel_rfl
theorem tz4 : (Ybad.prog.globals[0]?).map (·.type) = some 29 := by kernel_rfl
theorem tz6 : (Ybad.prog.globals[1]?).map (·.type) = some 29 := by kernel_rfl
theorem tz0 : (Ybad.prog.globals[2]?).map (·.type) = some 29 := by kernel_rfl
theorem cells27 : Ybad.prog.cellsOf 27 = 1 := by kernel_rfl
theorem cells29 : Ybad.prog.cellsOf 29 = 1 := by kernel_rfl
theorem cells86 : Ybad.prog.cellsOf 86 = 2 := by kernel_rfl

def laid3 : List (String × DataW Unit) := [(nz4, Rows.laid_net_netip_z4), (nz6, Rows.laid_net_netip_z6noz), (nz0, Rows.laid_net_netip_z0)]

/-- A world in which the three variables lie as listed. (The door's own heap does not serve for the witness: 'unique.Make' writes a block of the settled world.) -/
def laidW (P : Program) (os : Os) : World :=
  let n := (World.settled P os).heap.size
  let w0 := World.holding P os ⟨#[.cells #[.bool false, .string ByteArray.empty] 86, .cells #[.bool true, .string ByteArray.empty] 86], #[], []⟩
  { w0 with heap := (w0.heap.modify 0 fun
      | .cells _ t fr => .cells #[.pointer (some ⟨n, 0, none⟩)] t fr
      | o => o).modify 1 fun
      | .cells _ t fr => .cells #[.pointer (some ⟨n + 1, 0, none⟩)] t fr
      | o => o }

theorem door_met (os : Os) (args : Array Value) : laidMetH Ybad.prog laid3 ((laidW Ybad.prog os).forCall (fun _ _ => 0) ⟨#[], args, []⟩).memory :=
  laidMetH_of_parts3 (fuel := 8) (laidMet_of_run' 8 (by kernel_rfl) (by kernel_rfl)) (by kernel_rfl) (by kernel_rfl)

theorem handle_ptr {H : Type} {enc : TypeId × Value → H} {W : World} {sp : Nat → Bool} {held : Bool} {fuel : Nat} {cs : Array Value} {d : DataW H} {p : List MemPlace}
    (h : DataW.trod enc Ybad.prog W 0 sp held fuel 29 cs.toList = some (.agg [.ptr d], p)) : ∃ a q, cs = #[.pointer (some a)] ∧ p = MemPlace.row a 2 ++ q := by
  obtain ⟨y0, n, hx, hl, hy⟩ := trod_struct1 Ybad.underlying29 h
  simp only [Prod.mk.injEq, DataW.agg.injEq, List.cons.injEq, and_true] at hx
  obtain ⟨h1, h2⟩ := hx
  rw [cells29] at hl
  rw [cells27] at hy
  obtain ⟨l⟩ := cs
  match l, hl with
  | [c], _ =>
    obtain ⟨y1, y2⟩ := y0
    simp only at h1 h2
    subst h1 h2
    obtain ⟨f', a, cs', q, hc, _, _, hp⟩ := ptr_of_trod Ybad.underlying27 hy
    simp at hc
    subst hc
    rw [cells86] at hp
    exact ⟨a, q, rfl, hp⟩

theorem handle_nil {H : Type} {enc : TypeId × Value → H} {W : World} {sp : Nat → Bool} {held : Bool} {fuel : Nat} {cs : Array Value} {p : List MemPlace}
    (h : DataW.trod enc Ybad.prog W 0 sp held fuel 29 cs.toList = some (.agg [.nil], p)) : cs = #[.pointer none] := by
  obtain ⟨y0, n, hx, hl, hy⟩ := trod_struct1 Ybad.underlying29 h
  simp only [Prod.mk.injEq, DataW.agg.injEq, List.cons.injEq, and_true] at hx
  obtain ⟨h1, h2⟩ := hx
  rw [cells29] at hl
  rw [cells27] at hy
  obtain ⟨l⟩ := cs
  match l, hl with
  | [c], _ =>
    rcases DataW.trod_pointer Ybad.underlying27 hy with ⟨hc, _⟩ | ⟨a, cs', y, m, _, hc, hx, _, _⟩
    · simp at hc; subst hc; rfl
    · rw [hx] at h1; cases h1

theorem mem_row (a : Addr) : MemPlace.cell a.block (a.off + 0) ∈ MemPlace.row a 2 := by simp [MemPlace.row, List.range_succ]

/-- WHAT THE CONDITION GIVES THE WALKS. -/
theorem of_laid {W : World} (h : laidMetH Ybad.prog laid3 W) : ∃ a4 a6, G a4 a6 W := by
  rw [MakeChecks.laidMetH_plain _ _ _ (by kernel_rfl)] at h
  obtain ⟨ps, ⟨g0, t0, cs0, f0, p0, q0, hg0, ht0, hv0, hd0, ⟨g1, t1, cs1, f1, p1, q1, hg1, ht1, hv1, hd1, ⟨g2, t2, cs2, f2, p2, q2, hg2, ht2, hv2, hd2, _, hp2⟩, hp1⟩, hp0⟩, hnd, hrow⟩ := h
  obtain rfl := Option.some.inj (gz4.symm.trans hg0)
  obtain rfl := Option.some.inj (gz6.symm.trans hg1)
  obtain rfl := Option.some.inj (gz0.symm.trans hg2)
  obtain rfl := Option.some.inj (tz4.symm.trans ht0)
  obtain rfl := Option.some.inj (tz6.symm.trans ht1)
  obtain rfl := Option.some.inj (tz0.symm.trans ht2)
  obtain ⟨a4, r4, rfl, e4⟩ := handle_ptr (show DataW.trod _ Ybad.prog W 0 _ false f0 29 cs0.toList = some (.agg [.ptr (.agg [.lit (.bool false), .lit (.string [])])], p0) from hd0)
  obtain ⟨a6, r6, rfl, e6⟩ := handle_ptr (show DataW.trod _ Ybad.prog W 0 _ false f1 29 cs1.toList = some (.agg [.ptr (.agg [.lit (.bool true), .lit (.string [])])], p1) from hd1)
  obtain rfl := handle_nil (show DataW.trod _ Ybad.prog W 0 _ false f2 29 cs2.toList = some (.agg [.nil], p2) from hd2)
  have m4 : MemPlace.cell a4.block (a4.off + 0) ∈ p0 := by rw [e4]; exact List.mem_append_left _ (mem_row a4)
  have m6 : MemPlace.cell a6.block (a6.off + 0) ∈ q0 := by
    rw [hp1, e6]; exact List.mem_append_left _ (List.mem_append_right _ (List.mem_append_left _ (mem_row a6)))
  refine ⟨a4, a6, ?_, ?_, ?_, ?_, ?_, ?_⟩
  · simpa using World.var?_cell hg0 hv0 0
  · simpa using World.var?_cell hg1 hv1 0
  · simpa using World.var?_cell hg2 hv2 0
  · exact (hrow _ _ (by rw [hp0]; exact List.mem_append_left _ (List.mem_append_right _ m4))).1
  · exact (hrow _ _ (by rw [hp0]; exact List.mem_append_right _ m6)).1
  · rintro rfl
    rw [hp0] at hnd
    exact (List.nodup_append.1 hnd).2.2 _ (List.mem_append_right _ m4) _ m6 rfl
end Go.Proofs.YbulkavxkDoor
