import Derived.Test.YbulkavxyFmtTw
import Derived.Test.YbulkavxyFmtTie
import Derived.Test.YbulkavxyFmtCards
import Derived.ProofKit
import Derived.Stop.JoinedAt
import Derived.Stop.JoinedTold
import Derived.Stop.Texts
import Derived.Stop.LaidErr
import Derived.SevenTiedAt
import Derived.WalkSmall
namespace Go.Proofs.YbulkavxyFmt
open Go.ChangeShapes Go.WideShapes Go.ChangeAt Go.RowKit Go.Kit
open Go.Extern.Stop Go.Stop Go.Extern
set_option linter.unusedVariables false

theorem own : ownKnob Ybaf.prog.godebug = none := by kernel_rfl
theorem laidOut : laidOutB Ybaf.pinned.checked.prog = true := by kernel_rfl
theorem stops_ : Ybaf.pinned.checked.prog.stops = ["fmt.errorf"] := by kernel_rfl
theorem stopKnobs_ : Ybaf.pinned.checked.prog.stopKnobs = [] := by kernel_rfl
theorem quiet_ (os : Os) : Stop.quiet Ybaf.pinned.checked.prog os := by
  intro k hk
  rw [stopKnobs_] at hk
  cases hk

/-- The listed variable's name. -/
def nmVar : String := Rows.lawS2364CTwiceSpec.vars.headD ""
theorem gO : Ybaf.prog.globalNamed nmVar = some 0 := by kernel_rfl
theorem gOType : (Ybaf.prog.globals[0]?).map (·.type) = some 30 := by kernel_rfl
theorem cells57 : Ybaf.prog.cellsOf 57 = 1 := by kernel_rfl
theorem cells9 : Ybaf.prog.cellsOf 9 = 1 := by kernel_rfl
theorem row55 (u : TypeId) (h : Ybaf.prog.typeName? 3 u = some nmErr) : u = 55 := by
  refine typeName_ptr_named (P := Ybaf.prog) (nm := "errors.errorString") (by kernel_rfl) (by kernel_rfl) (by decide) u ?_
  refine h.trans (congrArg some ?_)
  decide

abbrev errS : ByteArray := { data := #[116, 101, 110, 100, 58, 32, 105, 110, 118, 97, 108, 105, 100, 32, 111, 112, 116, 105, 111, 110] }
/-- The settled world with one block more, an errors.errorString; the variable holds a pointer to it. -/
def laidW (P : Program) (os : Os) : World :=
  let n := (World.settled P os).heap.size
  let w0 := World.holding P os ⟨#[.cells #[.string errS] 57], #[], []⟩
  { w0 with heap := w0.heap.modify 0 fun
      | .cells _ t fr => .cells #[.iface 55 (.pointer (some ⟨n, 0, none⟩))] t fr
      | o => o }
theorem laid_met (os : Os) (args : Array Value) : laidMet Ybaf.prog Rows.lawS2364CTwiceRow.laid ((laidW Ybaf.prog os).forCall (fun _ _ => 0) ⟨#[], args, []⟩).memory :=
  laidMet_of_run' 8 (by kernel_rfl) (by kernel_rfl)

theorem i64_bounds {n : Int} (h : (Lit.int .i64 n).wf = true) : -9223372036854775808 ≤ n ∧ n ≤ 9223372036854775807 := by
  simp [Lit.wf, IntKind.min, IntKind.max, IntKind.signed, IntKind.bits] at h
  omega

set_option maxRecDepth 100000 in
theorem twice_lifted (os : Os) (started : os.Started) (H : Type) (enc : TypeId × Value → H) :
    ReturnsInTold none {} Ybaf.checked os 4 .any Input.okWide ((OpenSpec.ofChange Rows.lawS2364CTwiceSpec).preRow enc Ybaf.prog Ybaf.f4 [] false Rows.lawS2364CTwiceRow.laid) (fun F => ((OpenSpec.ofChange Rows.lawS2364CTwiceSpec).at F.told).post enc Ybaf.prog Ybaf.f4 false true false false) (aloneAtReturn Ybaf.prog) nothingAlways := by
  refine returnsInTold_of_row (C := Ybaf.checked) (s := OpenSpec.ofChange Rows.lawS2364CTwiceSpec) (by kernel_rfl) own started (by kernel_rfl) Ybaf.func4
    (OpenSpec.witness_stopped_at (enc := enc) (C := Ybaf.checked) false (laidW Ybaf.prog os) #[.int .i64 1] rfl (by kernel_rfl) (by kernel_rfl) (by kernel_rfl)
      (OpenSpec.preRow_of_B rfl 8 (by kernel_rfl) (by kernel_rfl) (laid_met os _))) ?_
  intro F W base args ds gs before _ hF hval0 hW _ _ _ hL _
  have hval : ∀ (j : Nat) t v, Ybaf.f4.params[j]? = some t → args[j]? = some v → Value.okWide Ybaf.prog W .any base t v := hval0
  have hW' := hW
  obtain ⟨p, q, hA0, hV0, rfl, hfz, hnd⟩ := hW
  have hA : DataW.TrodAll enc Ybaf.prog W 0 (fun _ => true) true Ybaf.f4.params.toList args.toList ds p := hA0
  have hV : DataW.TrodVars enc Ybaf.prog W (fun _ => true) [nmVar] gs q := hV0
  rw [Ybaf.params4] at hA hval
  obtain ⟨v0, d0, rfl, rfl, h0⟩ := trodAll_one hA
  obtain ⟨n, rfl, rfl, rfl, wn⟩ := open_int Ybaf.underlying3 (hval 0 3 v0 rfl rfl) h0
  obtain ⟨a1, s1, hv1, hc1, hs1, hz1⟩ := laid_sentinel hL gO gOType Ybaf.underlying30 row55 Ybaf.underlying55 Ybaf.underlying57 rfl rfl Ybaf.underlying9 cells57 cells9
  obtain ⟨rfl, rfl⟩ := hV.unique (vars_read1 enc gO gOType Ybaf.underlying30 hv1 trivial _)
  clear hA0 hV0 hval0
  have hg1 : W.cell? ⟨0, 0, none⟩ = some (.iface 55 (.pointer (some a1))) := by simpa using World.var?_cell gO hv1 0
  have h0lt : 0 < W.heap.size := block_lt_of_cell hg1
  have hbd := i64_bounds wn
  have hall : Calls Ybaf.prog 4 #[.int .i64 n] W fun e w' => e = .returned (.bool true) ∧ Below W.heap.size W w' := by
    by_cases hn : n < 1
    · exact twice_lo F.told n a1 s1 W hn hF hg1 hc1
    · exact twice_hi n W (by omega) hbd.2
  refine hall.mono fun e W' ⟨he, hB⟩ => ?_
  subst he
  exact ⟨_, rfl, _, _, _, [], [], [.cell 0 0], hW', trodAll_mk1 (shut_bool Ybaf.underlying4 _), trodAll_mk1 (shut_int Ybaf.underlying3 wn), vars_read1 enc gO gOType Ybaf.underlying30 (var?_below hB gO h0lt hv1) trivial _, hB.frame _, fun h => by cases h⟩

/-- THE STATEMENT. -/
theorem twice_card : Rows.LawS2364CTwiceToldSaid :=
  Claim7.holds_of_told_tied_any_at .later 4 Ybaf.f4 "fmt.errorf" [] [] _ _ _ _ _ (by kernel_rfl) rfl rfl rfl laidOut (by kernel_rfl) rfl ⟨rfl, rfl, rfl, rfl, rfl, rfl, rfl⟩ rfl rfl (by kernel_rfl) (by kernel_rfl) Ybaf.func4 (by kernel_rfl)
    (of_decide_eq_true (by kernel_rfl)) (of_decide_eq_true (by kernel_rfl)) stops_.symm rfl stopKnobs_.symm (by kernel_rfl)
    (by kernel_rfl) (by kernel_rfl) (by kernel_rfl) (by kernel_rfl) (by kernel_rfl) (by kernel_rfl) (by kernel_rfl) (by kernel_rfl) (by kernel_rfl) rfl (by kernel_rfl) rfl rfl
    rfl rfl
    rfl (by kernel_rfl) (by kernel_rfl) (by kernel_rfl) (by decide) (by kernel_rfl) lawS2364CTwice_row_tie
    (OpenClaim.moreEntering_of (by kernel_rfl) (by kernel_rfl) (by kernel_rfl) (by kernel_rfl) (by kernel_rfl) (by kernel_rfl) (by kernel_rfl) (by kernel_rfl) (by kernel_rfl) (by kernel_rfl))
    ⟨_, WideRow.started_initial, quiet_ _⟩
    (fun os started _ H enc _ => twice_lifted os started H enc)
#print axioms twice_card
end Go.Proofs.YbulkavxyFmt
