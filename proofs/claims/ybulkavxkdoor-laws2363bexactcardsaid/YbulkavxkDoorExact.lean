import Derived.Test.YbulkavxkDoorAny
import Derived.Test.YbulkavxkDoorLaid
import Derived.Test.YbulkavxkDoorTie
import Derived.Test.YbulkavxkDoorCards
import Derived.SevenTiedAt
import Derived.ChangeOld
namespace Go.Proofs.YbulkavxkDoor
open Go.ChangeShapes Go.WideShapes Go.ChangeAt Go.RowKit
set_option linter.unusedVariables false

theorem laidOut : laidOutB Ybad.prog = true := by kernel_rfl
theorem cells49 : Ybad.prog.cellsOf 49 = 16 := by kernel_rfl
theorem cells5 : Ybad.prog.cellsOf 5 = 1 := by kernel_rfl

theorem byte_wf {n : Int} (h : (Lit.int .u8 n).wf = true) : Byte n := by
  simp [Lit.wf, IntKind.min, IntKind.max, IntKind.signed, IntKind.bits] at h
  unfold Byte
  omega

theorem list16 (l : List Value) (h : l.length = 16) : ∃ c0 c1 c2 c3 c4 c5 c6 c7 c8 c9 c10 c11 c12 c13 c14 c15 : Value, l = [c0, c1, c2, c3, c4, c5, c6, c7, c8, c9, c10, c11, c12, c13, c14, c15] := by
  match l, h with
  | [c0, c1, c2, c3, c4, c5, c6, c7, c8, c9, c10, c11, c12, c13, c14, c15], _ => exact ⟨c0, c1, c2, c3, c4, c5, c6, c7, c8, c9, c10, c11, c12, c13, c14, c15, rfl⟩

/-- An array of sixteen bytes by value, opened. -/
theorem open_arr {H : Type} {enc : TypeId × Value → H} {W : World} {base : Nat} {sp : Nat → Bool} {held : Bool} {v : Value} {d : DataW H} {p : List MemPlace} {b0 : Nat} (hv : Value.okWide Ybad.prog W .any b0 49 v) (h : DataW.Trod enc Ybad.prog W base sp held 49 v d p) :
    ∃ x0 x1 x2 x3 x4 x5 x6 x7 x8 x9 x10 x11 x12 x13 x14 x15 : Int, v = .agg #[.int .u8 x0, .int .u8 x1, .int .u8 x2, .int .u8 x3, .int .u8 x4, .int .u8 x5, .int .u8 x6, .int .u8 x7, .int .u8 x8, .int .u8 x9, .int .u8 x10, .int .u8 x11, .int .u8 x12, .int .u8 x13, .int .u8 x14, .int .u8 x15] ∧ ∀ x ∈ [x0, x1, x2, x3, x4, x5, x6, x7, x8, x9, x10, x11, x12, x13, x14, x15], Byte x := by
  obtain ⟨cs, rfl, hsz, _⟩ : ∃ cs, v = .agg cs ∧ cs.size = Ybad.prog.cellsOf 49 ∧ _root_.Go.Row.okWide Ybad.prog W .any b0 49 cs := by
    simpa [Value.okWide, Ybad.underlying49] using hv
  rw [cells49] at hsz
  obtain ⟨fuel, hf⟩ := h
  obtain ⟨ys, m, _, _, _, hl, hel0⟩ := DataW.trod_array Ybad.underlying49 hf
  rw [cells5] at hel0
  obtain ⟨l⟩ := cs
  have hl16 : l.length = 16 := by simpa using hsz
  have hel : ∀ i, i < 16 → ∃ n, l[i]? = some (.int .u8 n) ∧ (Lit.int .u8 n).wf = true := by
    intro i hi
    have h1 := hel0 i hi
    have hy : ys[i]? = some ys[i] := List.getElem?_eq_getElem (by omega)
    rw [hy] at h1
    obtain ⟨n, e1, _, wn⟩ := DataW.trod_int Ybad.underlying5 h1
    refine ⟨n, ?_, wn⟩
    have hi' : i < l.length := by omega
    simp only [Value.cells, Nat.mul_one, List.take_one] at e1
    rw [List.head?_drop, List.getElem?_eq_getElem hi'] at e1
    simp at e1
    rw [List.getElem?_eq_getElem hi', e1]
  obtain ⟨x0, e0, w0⟩ := hel 0 (by decide)
  obtain ⟨x1, e1, w1⟩ := hel 1 (by decide)
  obtain ⟨x2, e2, w2⟩ := hel 2 (by decide)
  obtain ⟨x3, e3, w3⟩ := hel 3 (by decide)
  obtain ⟨x4, e4, w4⟩ := hel 4 (by decide)
  obtain ⟨x5, e5, w5⟩ := hel 5 (by decide)
  obtain ⟨x6, e6, w6⟩ := hel 6 (by decide)
  obtain ⟨x7, e7, w7⟩ := hel 7 (by decide)
  obtain ⟨x8, e8, w8⟩ := hel 8 (by decide)
  obtain ⟨x9, e9, w9⟩ := hel 9 (by decide)
  obtain ⟨x10, e10, w10⟩ := hel 10 (by decide)
  obtain ⟨x11, e11, w11⟩ := hel 11 (by decide)
  obtain ⟨x12, e12, w12⟩ := hel 12 (by decide)
  obtain ⟨x13, e13, w13⟩ := hel 13 (by decide)
  obtain ⟨x14, e14, w14⟩ := hel 14 (by decide)
  obtain ⟨x15, e15, w15⟩ := hel 15 (by decide)
  obtain ⟨c0, c1, c2, c3, c4, c5, c6, c7, c8, c9, c10, c11, c12, c13, c14, c15, rfl⟩ := list16 l hl16
  simp only [List.getElem?_cons_zero, List.getElem?_cons_succ, Option.some.injEq] at e0 e1 e2 e3 e4 e5 e6 e7 e8 e9 e10 e11 e12 e13 e14 e15
  subst e0 e1 e2 e3 e4 e5 e6 e7 e8 e9 e10 e11 e12 e13 e14 e15
  refine ⟨x0, x1, x2, x3, x4, x5, x6, x7, x8, x9, x10, x11, x12, x13, x14, x15, rfl, ?_⟩
  intro x hx
  simp only [List.mem_cons, List.not_mem_nil, or_false] at hx
  rcases hx with rfl | rfl | rfl | rfl | rfl | rfl | rfl | rfl | rfl | rfl | rfl | rfl | rfl | rfl | rfl | rfl
  all_goals first | exact byte_wf w0 | exact byte_wf w1 | exact byte_wf w2 | exact byte_wf w3 | exact byte_wf w4 | exact byte_wf w5 | exact byte_wf w6 | exact byte_wf w7 | exact byte_wf w8 | exact byte_wf w9 | exact byte_wf w10 | exact byte_wf w11 | exact byte_wf w12 | exact byte_wf w13 | exact byte_wf w14 | exact byte_wf w15

set_option maxRecDepth 100000 in
theorem lifted (os : Os) (started : os.Started) (H : Type) (enc : TypeId × Value → H) :
    ReturnsInHanded {} Ybad.checked os 4 .any (fun w args => (Rows.lawS2363BExactSpec.pre enc Ybad.prog Ybad.f4 [] false w args ∧ laidMetH Ybad.prog laid3 w) ∧ sizedMet enc Ybad.prog Ybad.f4 (OpenSpec.ofChange Rows.lawS2363BExactSpec) false w args)
      (Rows.lawS2363BExactSpec.post enc Ybad.prog Ybad.f4 false true false false) := by
  refine returnsInHanded_of_change_and (C := Ybad.checked) (X := fun w _ => laidMetH Ybad.prog laid3 w) (fun _ _ _ hh h => h.of_heap hh) own started (by kernel_rfl) Ybad.func4
    (ChangeSpec.witness_shaped (enc := enc) (C := Ybad.checked) (os := os) (X := fun w _ => laidMetH Ybad.prog laid3 w) false (laidW Ybad.prog os) #[.int .u8 0, .agg #[.int .u8 0, .int .u8 0, .int .u8 0, .int .u8 0, .int .u8 0, .int .u8 0, .int .u8 0, .int .u8 0, .int .u8 0, .int .u8 0, .int .u8 0, .int .u8 0, .int .u8 0, .int .u8 0, .int .u8 0, .int .u8 0], .bool false, .int .u16 0] 8 rfl (World.shaped_of_RefB (by kernel_rfl) (by kernel_rfl)) (by kernel_rfl) (by kernel_rfl) (by kernel_rfl) (door_met os _)) ?_
  intro W base args ds gs before hval0 hW _ _ hL _
  have hval : ∀ (j : Nat) t v, Ybad.f4.params[j]? = some t → args[j]? = some v → Value.okWide Ybad.prog W .any base t v := hval0
  have hW' := hW
  obtain ⟨p, q, hA0, hV, rfl, hfz, hnd⟩ := hW
  have hA : DataW.TrodAll enc Ybad.prog W 0 (fun _ => true) true Ybad.f4.params.toList args.toList ds p := hA0
  rw [Ybad.params4] at hA hval
  obtain ⟨v0, v1, v2, v3, d0, d1, d2, d3, p0, p1, p2, p3, rfl, rfl, rfl, h0, h1, h2, h3⟩ := trodAll_four hA
  obtain ⟨rfl, rfl⟩ := trodVars_none hV
  obtain ⟨m, rfl, rfl, rfl, wm⟩ := open_int Ybad.underlying5 (hval 0 5 v0 rfl rfl) h0
  obtain ⟨x0, x1, x2, x3, x4, x5, x6, x7, x8, x9, x10, x11, x12, x13, x14, x15, rfl, hx⟩ := open_arr (hval 1 49 v1 rfl rfl) h1
  obtain ⟨zero, rfl, rfl, rfl⟩ := open_bool Ybad.underlying4 (hval 2 4 v2 rfl rfl) h2
  obtain ⟨pt, rfl, rfl, rfl, wp⟩ := open_int Ybad.underlying32 (hval 3 32 v3 rfl rfl) h3
  have lt1 : ∀ x ∈ p1, x.block < W.heap.size := by obtain ⟨n, hn⟩ := h1; exact DataW.trod_lt n _ _ _ hn
  obtain ⟨a4, a6, hG⟩ := of_laid hL
  have hm := byte_wf wm
  clear hA0 hval0
  refine (law_any a4 a6 x0 x1 x2 x3 x4 x5 x6 x7 x8 x9 x10 x11 x12 x13 x14 x15 m pt zero W hG hx hm.1 hm.2).mono fun e W' ⟨he, bel⟩ => ?_
  subst he
  exact ⟨_, rfl, _, _, _, [], _, [], hW', trodAll_mk1 (shut_bool Ybad.underlying4 _), (trodAll_cons_mk (shut_int Ybad.underlying5 wm) (trodAll_cons_mk (Below.trod laidOut (by kernel_rfl) (of_decide_eq_true (by kernel_rfl)) h1 bel lt1) (trodAll_cons_mk (shut_bool Ybad.underlying4 _) (trodAll_cons_mk (shut_int Ybad.underlying32 wp) trodAll_mk0)))), rfl, bel.frame _, fun h => by cases h⟩

theorem over : Rows.LawS2363BExactSaid :=
  OpenClaim.holds_of_wide 4 Ybad.f4 rfl rfl rfl rfl rfl rfl rfl ⟨rfl, rfl, rfl, rfl, rfl⟩ rfl rfl rfl rfl rfl (by kernel_rfl) Ybad.func4 (by kernel_rfl)
    (of_decide_eq_true (by kernel_rfl)) (by unfold Func.isWrapper; first | (rw [if_pos (by decide +kernel)]; kernel_rfl) | (rw [if_neg (by decide +kernel)]; exact ⟨rfl, rfl⟩))
    (fun os started H enc _ => lifted os started H enc)

/-- THE STATEMENT: the tied card. -/
theorem exact_card : Rows.LawS2363BExactCardSaid :=
  Claim7.holds_tied_plain_at .later [] [.called, .called, .zero] true (true, "60d5b6e99c570e864c8b43928f967b54702712206b9861dae53c0fa3907ff9f8") false
    over (fun _ h => by cases h) (by kernel_rfl) (fun _ h => by cases h) lawS2363BExact_row_tie rfl ⟨rfl, rfl⟩ (by kernel_rfl) rfl
    (fun f fn hf hfn => by
      obtain rfl : f = 4 := Option.some.inj ((show Ybad.prog.funcNamed Rows.lawS2363BExactRow.func = some 4 by kernel_rfl).symm.trans hf) |>.symm
      obtain rfl : fn = Ybad.f4 := (Option.some.inj (Ybad.func4.symm.trans hfn)).symm
      exact ⟨by kernel_rfl, fun j t ht => by
        rw [Ybad.params4] at ht
        have hm : t ∈ [5, 49, 4, 32] := by simpa using Array.mem_of_getElem? ht
        have hall : ([5, 49, 4, 32].all fun u => !Ybad.prog.wantsStandIn u) = true := by kernel_rfl
        exact (show Ybad.prog.wantsStandIn t = false by simpa using List.all_eq_true.1 hall t hm)⟩)
    (by kernel_rfl)
#print axioms exact_card
end Go.Proofs.YbulkavxkDoor
