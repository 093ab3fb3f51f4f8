import Derived.Test.YbulkavymSv
import Derived.Deep.Slices
import Derived.ChangeArms
import Derived.ProofKit
import Derived.OpenShut
import Derived.ChangeOld
import Derived.Below
namespace Go.Proofs.Ybulkavym.lawS2365CSettles
open Go.ChangeShapes Go.WideShapes Go.ChangeAt Go.RowKit
set_option linter.unusedVariables false

theorem own : ownKnob Yba.prog.godebug = none := by kernel_rfl
theorem laidOut : laidOutB Yba.prog = true := by kernel_rfl
theorem cells47 : Yba.prog.cellsOf 47 = 4 := by kernel_rfl
theorem cells5 : Yba.prog.cellsOf 5 = 1 := by kernel_rfl
theorem cells4 : Yba.prog.cellsOf 4 = 1 := by kernel_rfl
theorem u8_bd {z : Int} (h : (Lit.int .u8 z).wf = true) : 0 ≤ z ∧ z ≤ 255 := by
  simp [Lit.wf, IntKind.min, IntKind.max, IntKind.signed, IntKind.bits] at h
  omega
theorem u16_bd {z : Int} (h : (Lit.int .u16 z).wf = true) : 0 ≤ z ∧ z ≤ 65535 := by
  simp [Lit.wf, IntKind.min, IntKind.max, IntKind.signed, IntKind.bits] at h
  omega
instance : Inhabited RD := ⟨⟨0, 0, false, false⟩⟩

/-- The written records that came in, as the walk is told of them. -/
structure Recs (w : World) (ao : Option Addr) (n rb ro : Nat) (D : Nat → RD) : Prop where
  hao : 0 < n → ao = some ⟨rb, ro, none⟩
  hc : ∀ i, i < n → w.cell? ⟨rb, ro + i * 4, none⟩ = some (.int .u8 (D i).b) ∧ w.cell? ⟨rb, ro + i * 4 + 1, none⟩ = some (.int .u8 (D i).a) ∧ w.cell? ⟨rb, ro + i * 4 + 2, none⟩ = some (.bool (D i).h) ∧ w.cell? ⟨rb, ro + i * 4 + 3, none⟩ = some (.bool (D i).p)
  hd : ∀ i, i < n → 0 ≤ (D i).b ∧ (D i).b ≤ 255 ∧ 0 ≤ (D i).a ∧ (D i).a ≤ 255

/-- One element of four cells: two bytes, two bools. -/
theorem quad {H : Type} {enc : TypeId × Value → H} {P : Program} {w : World} {base fuel : Nat} {sp : Nat → Bool} {held : Bool} {e tb tl : TypeId} {f0 f1 f2 f3 : Field} {cs : List Value} {x : DataW H × List MemPlace} (he : P.underlying e = some (.struct #[f0, f1, f2, f3]))
    (o0 : f0.offset = 0) (o1 : f1.offset = 1) (o2 : f2.offset = 2) (o3 : f3.offset = 3) (t0 : f0.type = tb) (t1 : f1.type = tb) (t2 : f2.type = tl) (t3 : f3.type = tl) (cb : P.cellsOf tb = 1) (cl : P.cellsOf tl = 1) (ub : P.underlying tb = some (.int .u8)) (ul : P.underlying tl = some .bool)
    (hlen : cs.length = 4) (h : DataW.trod enc P w base sp held fuel e cs = some x) : ∃ (b c : Int) (p q : Bool), cs = [.int .u8 b, .int .u8 c, .bool p, .bool q] ∧ (Lit.int .u8 b).wf = true ∧ (Lit.int .u8 c).wf = true := by
  obtain ⟨xs, k, hk, hxy, _, hxl, hf⟩ := DataW.trod_struct he h
  match xs, hxl, cs, hlen with
  | [y0, y1, y2, y3], _, [v0, v1, v2, v3], _ =>
    have g0 := hf 0 f0 rfl
    have g1 := hf 1 f1 rfl
    have g2 := hf 2 f2 rfl
    have g3 := hf 3 f3 rfl
    simp [o0, o1, o2, o3, t0, t1, t2, t3, cb, cl] at g0 g1 g2 g3
    obtain ⟨b, e0, _, b0⟩ := DataW.trod_int ub g0
    obtain ⟨c, e1, _, b1⟩ := DataW.trod_int ub g1
    obtain ⟨p, e2, _⟩ := DataW.trod_bool ul g2
    obtain ⟨q, e3, _⟩ := DataW.trod_bool ul g3
    simp at e0 e1 e2 e3
    subst e0 e1 e2 e3
    exact ⟨b, c, p, q, rfl, b0, b1⟩
theorem open_recs {H : Type} {enc : TypeId × Value → H} {W : World} {ao : Option Addr} {n cap fuel : Nat} {x : DataW H × List MemPlace} (h : DataW.trod enc Yba.prog W 0 (fun _ => true) true fuel 28 [.slice ao n cap] = some x) :
    ∃ rb ro D, Recs W ao n rb ro D := by
  rcases Deep.open_slice Yba.underlying28 h with ⟨h0, _⟩ | ⟨a, len, cap', m, fl, Dt, Pl, hcs, hb, hl, hm, hmm, _, hx⟩
  · simp at h0
    obtain ⟨rfl, rfl, rfl⟩ := h0
    exact ⟨0, 0, fun _ => default, fun h => absurd h (by omega), fun i h => absurd h (by omega), fun i h => absurd h (by omega)⟩
  · simp at hcs
    obtain ⟨rfl, rfl, rfl⟩ := hcs
    have hlm : n ≤ m := by rw [hmm]; split <;> omega
    have each : ∀ i, i < n → ∃ d : RD, (W.cell? (a.add (i * 4)) = some (.int .u8 d.b) ∧ W.cell? (a.add (i * 4 + 1)) = some (.int .u8 d.a) ∧ W.cell? (a.add (i * 4 + 2)) = some (.bool d.h) ∧ W.cell? (a.add (i * 4 + 3)) = some (.bool d.p)) ∧ 0 ≤ d.b ∧ d.b ≤ 255 ∧ 0 ≤ d.a ∧ d.a ≤ 255 := by
      intro i hi
      obtain ⟨cs, h1, h2⟩ := hx i (by omega)
      rw [cells47] at h1
      obtain ⟨_, hlen, hcell⟩ := World.cells?_some h1
      obtain ⟨b, c, p, q, rfl, b0, b1⟩ := quad Yba.underlying47 rfl rfl rfl rfl rfl rfl rfl rfl cells5 cells4 Yba.underlying5 Yba.underlying4 hlen h2
      have t0 := hcell 0 (by omega)
      have t1 := hcell 1 (by omega)
      have t2 := hcell 2 (by omega)
      have t3 := hcell 3 (by omega)
      rw [Deep.add_add] at t0 t1 t2 t3
      exact ⟨⟨b, c, p, q⟩, ⟨by simpa using t0, by simpa using t1, by simpa using t2, by simpa using t3⟩, (u8_bd b0).1, (u8_bd b0).2, (u8_bd b1).1, (u8_bd b1).2⟩
    obtain ⟨D, hD⟩ := Deep.choose_lt each
    obtain ⟨rb, ro, spot⟩ := a
    by_cases h0 : 0 < n
    · have hs := (hD 0 h0).1.1
      have hspot : spot = none := by simpa [Addr.add] using World.cell?_spot hs
      subst hspot
      refine ⟨rb, ro, D, fun _ => rfl, fun i hi => ?_, fun i hi => (hD i hi).2⟩
      have := (hD i hi).1
      simp only [Addr.add_lit] at this
      exact this
    · exact ⟨rb, ro, D, fun h => absurd h h0, fun i hi => absurd hi (by omega), fun i hi => absurd hi (by omega)⟩

set_option maxRecDepth 100000 in
theorem walk (ix rs : Int) (ao : Option Addr) (n cap0 rb ro : Nat) (D : Nat → RD) (w : World) (hi : (Lit.int .u16 ix).wf = true) (hr : (Lit.int .u8 rs).wf = true) (hR : Recs w ao n rb ro D) :
    Calls Yba.prog 5 #[.int .u16 ix, .int .u8 rs, .slice ao n cap0] w fun e w' => e = .returned (.bool true) ∧ Below w.heap.size w w' := by
  by_cases h1 : 300 < n
  · clear hR hi hr
    go_enter Yba.func5, Yba.ntmps5
    go_wp2
    go_ret
    exact ⟨rfl, Below.refl _ _⟩
  · exact main_walk ix rs ao rb ro n cap0 D w (u16_bd hi).1 (u16_bd hi).2 (u8_bd hr).1 (u8_bd hr).2 (by omega) hR.hao hR.hc hR.hd

set_option maxRecDepth 100000 in
theorem lifted (os : Os) (started : os.Started) (H : Type) (enc : TypeId × Value → H) :
    ReturnsInHanded {} Yba.checked os 5 .any (Rows.lawS2365CSettlesSpec.pre6 enc Yba.prog Yba.f5 Rows.lawS2365CSettlesRow.domain false) (Rows.lawS2365CSettlesSpec.post enc Yba.prog Yba.f5 false true false false) := by
  refine returnsInHanded_of_change (C := Yba.checked) own started (by kernel_rfl) Yba.func5
    (ChangeSpec.witness6 (enc := enc) (C := Yba.checked) false ⟨#[], #[.int .u16 0, .int .u8 0, .slice none 0 0], []⟩ 8 (by kernel_rfl) (by kernel_rfl) (by kernel_rfl) (by kernel_rfl)) ?_
  intro W base args ds gs before hval0 hW hcnd _
  have hval : ∀ (j : Nat) t v, Yba.f5.params[j]? = some t → args[j]? = some v → Value.okWide Yba.prog W .any base t v := hval0
  have hW' := hW
  obtain ⟨p, q, hA0, hV, rfl, hfz, hnd⟩ := hW
  have hA : DataW.TrodAll enc Yba.prog W 0 (fun _ => true) true Yba.f5.params.toList args.toList ds p := hA0
  rw [Yba.params5] at hA hval
  obtain ⟨v0, vs0, d0, ds0, p0, q0, hargs, rfl, rfl, h0, r0⟩ := trodAll_cons hA
  obtain ⟨v1, vs1, d1, ds1, p1, q1, rfl, rfl, rfl, h1, r1⟩ := trodAll_cons r0
  obtain ⟨v2, vs2, d2, ds2, p2, q2, rfl, rfl, rfl, h2, r2⟩ := trodAll_cons r1
  obtain ⟨rfl, rfl, rfl⟩ := trodAll_nil r2
  obtain rfl : args = #[v0, v1, v2] := by cases args; simp_all
  obtain ⟨rfl, rfl⟩ := trodVars_none hV
  obtain ⟨ix, rfl, rfl, rfl, w0⟩ := open_int Yba.underlying27 (hval 0 27 v0 rfl rfl) h0
  obtain ⟨rs, rfl, rfl, rfl, w1⟩ := open_int Yba.underlying5 (hval 1 5 v1 rfl rfl) h1
  obtain ⟨ao, n, cap0, rfl⟩ := okWide_slice Yba.underlying28 (hval 2 28 v2 rfl rfl)
  have k2 := h2
  have lt2 : ∀ x ∈ p2, x.block < W.heap.size := by obtain ⟨m, hm⟩ := k2; exact DataW.trod_lt m _ _ _ hm
  obtain ⟨rb, ro, D, hR⟩ : ∃ rb ro D, Recs W ao n rb ro D := by
    obtain ⟨fuel, hf⟩ := h2
    exact open_recs hf
  clear hA0 hval0
  refine (walk ix rs ao n cap0 rb ro D W w0 w1 hR).mono fun e W' ⟨he, bel⟩ => ?_
  subst he
  exact ⟨_, rfl, _, _, _, [], _, [], hW', trodAll_mk1 (shut_bool Yba.underlying4 _), (trodAll_cons_mk (shut_int Yba.underlying27 w0) (trodAll_cons_mk (shut_int Yba.underlying5 w1) (trodAll_cons_mk (Below.trod laidOut (by kernel_rfl) (of_decide_eq_true (by kernel_rfl)) k2 bel lt2) trodAll_mk0))), rfl, bel.frame _, fun h => by cases h⟩

theorem over : Rows.lawS2365CSettlesRow.holds Yba.pinned (OpenSpec.ofChange Rows.lawS2365CSettlesSpec) :=
  OpenClaim.holds_of_wide 5 Yba.f5 rfl rfl rfl rfl rfl rfl rfl ⟨rfl, rfl, rfl, rfl, rfl⟩ rfl rfl rfl rfl rfl (by kernel_rfl) Yba.func5 (by kernel_rfl)
    (of_decide_eq_true (by kernel_rfl)) (by unfold Func.isWrapper; first | (rw [if_pos (by decide +kernel)]; kernel_rfl) | (rw [if_neg (by decide +kernel)]; exact ⟨rfl, rfl⟩))
    (fun os started H enc _ => lifted os started H enc)

/-- THE STATEMENT -/
theorem proved : Rows.LawS2365CSettlesSaid := over
end Go.Proofs.Ybulkavym.lawS2365CSettles

namespace Go.Proofs.Ybulkavym
theorem settles_law : Rows.LawS2365CSettlesSaid := lawS2365CSettles.proved
#print axioms settles_law
end Go.Proofs.Ybulkavym
