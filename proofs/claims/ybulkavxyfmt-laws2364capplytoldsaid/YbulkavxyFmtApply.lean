import Derived.Test.YbulkavxyFmtAp
import Derived.Test.YbulkavxyFmtLift
import Derived.OpenShut
namespace Go.Proofs.YbulkavxyFmt
open Go.ChangeShapes Go.WideShapes Go.ChangeAt Go.RowKit Go.Kit
open Go.Extern.Stop Go.Stop Go.Extern
set_option linter.unusedVariables false

set_option maxRecDepth 100000 in
theorem apply_lifted (os : Os) (started : os.Started) (H : Type) (enc : TypeId × Value → H) :
    ReturnsInTold none {} Ybaf.checked os 3 .any Input.okWide ((OpenSpec.ofChange Rows.lawS2364CApplySpec).preRow enc Ybaf.prog Ybaf.f3 [] false Rows.lawS2364CApplyRow.laid) (fun F => ((OpenSpec.ofChange Rows.lawS2364CApplySpec).at F.told).post enc Ybaf.prog Ybaf.f3 false true false false) (aloneAtReturn Ybaf.prog) nothingAlways := by
  refine returnsInTold_of_row (C := Ybaf.checked) (s := OpenSpec.ofChange Rows.lawS2364CApplySpec) (by kernel_rfl) own started (by kernel_rfl) Ybaf.func3
    (OpenSpec.witness_stopped_at (enc := enc) (C := Ybaf.checked) false (laidW Ybaf.prog os) #[.int .i64 1, .int .i64 0, .int .i64 0, .int .i64 0, .int .i64 0, .int .i64 0] rfl (by kernel_rfl) (by kernel_rfl) (by kernel_rfl)
      (OpenSpec.preRow_of_B rfl 8 (by kernel_rfl) (by kernel_rfl) (laid_met os _))) ?_
  intro F W base args ds gs before _ hF hval0 hW _ _ _ hL _
  have hval : ∀ (j : Nat) t v, Ybaf.f3.params[j]? = some t → args[j]? = some v → Value.okWide Ybaf.prog W .any base t v := hval0
  have hW' := hW
  obtain ⟨p, q, hA0, hV0, rfl, hfz, hnd⟩ := hW
  have hA : DataW.TrodAll enc Ybaf.prog W 0 (fun _ => true) true Ybaf.f3.params.toList args.toList ds p := hA0
  have hV : DataW.TrodVars enc Ybaf.prog W (fun _ => true) [nmVar] gs q := hV0
  rw [Ybaf.params3] at hA hval
  obtain ⟨v0, vs0, d0, ds0, p0, q0, hargs, rfl, rfl, h0, r0⟩ := trodAll_cons hA
  obtain ⟨v1, vs1, d1, ds1, p1, q1, rfl, rfl, rfl, h1, r1⟩ := trodAll_cons r0
  obtain ⟨v2, vs2, d2, ds2, p2, q2, rfl, rfl, rfl, h2, r2⟩ := trodAll_cons r1
  obtain ⟨v3, vs3, d3, ds3, p3, q3, rfl, rfl, rfl, h3, r3⟩ := trodAll_cons r2
  obtain ⟨v4, vs4, d4, ds4, p4, q4, rfl, rfl, rfl, h4, r4⟩ := trodAll_cons r3
  obtain ⟨v5, vs5, d5, ds5, p5, q5, rfl, rfl, rfl, h5, r5⟩ := trodAll_cons r4
  obtain ⟨rfl, rfl, rfl⟩ := trodAll_nil r5
  obtain rfl : args = #[v0, v1, v2, v3, v4, v5] := by cases args; simp_all
  obtain ⟨n, rfl, rfl, rfl, wn⟩ := open_int Ybaf.underlying3 (hval 0 3 v0 rfl rfl) h0
  obtain ⟨m, rfl, rfl, rfl, wm⟩ := open_int Ybaf.underlying3 (hval 1 3 v1 rfl rfl) h1
  obtain ⟨d, rfl, rfl, rfl, wd⟩ := open_int Ybaf.underlying2 (hval 2 2 v2 rfl rfl) h2
  obtain ⟨bu, rfl, rfl, rfl, wb⟩ := open_int Ybaf.underlying3 (hval 3 3 v3 rfl rfl) h3
  obtain ⟨iv, rfl, rfl, rfl, wi⟩ := open_int Ybaf.underlying2 (hval 4 2 v4 rfl rfl) h4
  obtain ⟨idl, rfl, rfl, rfl, wl⟩ := open_int Ybaf.underlying3 (hval 5 3 v5 rfl rfl) h5
  obtain ⟨a1, s1, hv1, hc1, hs1, hz1⟩ := laid_sentinel hL gO gOType Ybaf.underlying30 row55 Ybaf.underlying55 Ybaf.underlying57 rfl rfl Ybaf.underlying9 cells57 cells9
  obtain ⟨rfl, rfl⟩ := hV.unique (vars_read1 enc gO gOType Ybaf.underlying30 hv1 trivial _)
  clear hA0 hV0 hval0
  have hg1 : W.cell? ⟨0, 0, none⟩ = some (.iface 55 (.pointer (some a1))) := by simpa using World.var?_cell gO hv1 0
  have h0lt : 0 < W.heap.size := block_lt_of_cell hg1
  have hbd := i64_bounds wn
  have hall : Calls Ybaf.prog 3 #[.int .i64 n, .int .i64 m, .int .i64 d, .int .i64 bu, .int .i64 iv, .int .i64 idl] W fun e w' => e = .returned (.bool true) ∧ Below W.heap.size W w' := by
    by_cases hn : n < 1
    · exact apply_lo F.told n m d bu iv idl a1 s1 W hn hF hg1 hc1
    · exact apply_hi n m d bu iv idl W (by omega) hbd.2
  refine hall.mono fun e W' ⟨he, hB⟩ => ?_
  subst he
  exact ⟨_, rfl, _, _, _, [], _, [.cell 0 0], hW', trodAll_mk1 (shut_bool Ybaf.underlying4 _),
    (trodAll_cons_mk (shut_int Ybaf.underlying3 wn) (trodAll_cons_mk (shut_int Ybaf.underlying3 wm) (trodAll_cons_mk (shut_int Ybaf.underlying2 wd) (trodAll_cons_mk (shut_int Ybaf.underlying3 wb) (trodAll_cons_mk (shut_int Ybaf.underlying2 wi) (trodAll_cons_mk (shut_int Ybaf.underlying3 wl) trodAll_mk0)))))),
    vars_read1 enc gO gOType Ybaf.underlying30 (var?_below hB gO h0lt hv1) trivial _, hB.frame _, fun h => by cases h⟩

/-- THE STATEMENT. -/
theorem apply_card : Rows.LawS2364CApplyToldSaid :=
  Claim7.holds_of_told_tied_any_at .later 3 Ybaf.f3 "fmt.errorf" [] [] _ _ _ _ _ (by kernel_rfl) rfl rfl rfl laidOut (by kernel_rfl) rfl ⟨rfl, rfl, rfl, rfl, rfl, rfl, rfl⟩ rfl rfl (by kernel_rfl) (by kernel_rfl) Ybaf.func3 (by kernel_rfl)
    (of_decide_eq_true (by kernel_rfl)) (of_decide_eq_true (by kernel_rfl)) stops_.symm rfl stopKnobs_.symm (by kernel_rfl)
    (by kernel_rfl) (by kernel_rfl) (by kernel_rfl) (by kernel_rfl) (by kernel_rfl) (by kernel_rfl) (by kernel_rfl) (by kernel_rfl) (by kernel_rfl) rfl (by kernel_rfl) rfl rfl
    rfl rfl
    rfl (by kernel_rfl) (by kernel_rfl) (by kernel_rfl) (by decide) (by kernel_rfl) lawS2364CApply_row_tie
    (OpenClaim.moreEntering_of (by kernel_rfl) (by kernel_rfl) (by kernel_rfl) (by kernel_rfl) (by kernel_rfl) (by kernel_rfl) (by kernel_rfl) (by kernel_rfl) (by kernel_rfl) (by kernel_rfl))
    ⟨_, WideRow.started_initial, quiet_ _⟩
    (fun os started _ H enc _ => apply_lifted os started H enc)
#print axioms apply_card
end Go.Proofs.YbulkavxyFmt
