/-
  NARROWER THAN 'FOR EVERY INPUT', by the rows' own cells (each row's printed sentence says how): LawS2364CApply: ifaces, laid · LawS2364CTwice: ifaces, laid.
  DERIVED. THE GIVEN ROWS OF THIS SEAT. 2 by the template 'for every input the law returns true; each argument reads behind the call as it read before'; 0 by the template 'total and deterministic' (their statements: YbulkavxyFmtTotals.lean).
  GIVEN WITH THE SEED: the statements are not yours to turn. If you find one false, say at which input.
  Laid BY PROGRAM, IN A SANDBOX (cutbox-rows.mjs): the forced cells as the released guide's own fill.sh prints them over the translation f01ddc47367a16b8… (all of the seat's roots in one cut). By AI agents, Wed Nov 11 2026. No macro, syntax, notation, axiom, sorry.
-/
import Derived.Test.YbulkavxyFmtChecked
import GoSem.Claim
import GoSem.ClaimJoined
import GoSem.ClaimMapViews
import Derived.JoinedTies
import Derived.KernelRfl
namespace Go.Proofs.YbulkavxyFmt
/- THE CELL 'sum', in the pinned program and in every row, IS THE sha256 OF THE DUMP (.gsa) THAT YbulkavxyFmtProg.lean LOADS. Nothing in Lean hashes anything: it is a label: what it is worth is what the hold of that sum in a sandbox is worth. -/
noncomputable def Ybaf.pinned : Pinned := { name := "ybulkavxyfmt", sum := "f01ddc47367a16b8ed35680ddfad3be8fea40bd0aa732b2bbced081cbb677cda", checked := Ybaf.checked }
namespace Rows
def none {H : Type} : Left H := { results := [], args := [] }

/- WHAT THE LISTED PACKAGE-LEVEL VARIABLES READ AS WHEN THE CALL BEGINS. Each datum BY PROGRAM (the guide's laid-datum.mjs) off the statement by which the dump's own 'gosem.cut.vars' lays the variable. In a bare row this is a premise. The card (YbulkavxyFmtCards.lean) ties it to the program's text. -/
def laid_example_com_tend_tend_ErrInvalidOption {H : Type} : DataW H := .iface "*errors.errorString" (.ptr (.agg [.lit (.string [116, 101, 110, 100, 58, 32, 105, 110, 118, 97, 108, 105, 100, 32, 111, 112, 116, 105, 111, 110])]))

/-- 'tend.LawS2364CApply': WHATEVER THE INPUT: true; the input reads as it did. -/
def lawS2364CApplySpec : ChangeSpec := { name := "lawS2364CApply", vars := ["example.com/tend/tend.ErrInvalidOption"], fn := fun _ => fun
  | [d1, d2, d3, d4, d5, d6, g1] => { results := [.lit (.bool true)], args := [d1, d2, d3, d4, d5, d6], vars := [g1] }
  | _ => none }
def lawS2364CApplyRow : OpenClaim := { program := "ybulkavxyfmt", sum := "f01ddc47367a16b8ed35680ddfad3be8fea40bd0aa732b2bbced081cbb677cda", func := "example.com/tend/tend.LawS2364CApply", spec := "lawS2364CApply", stops := ["fmt.errorf"], inPlace := ["fmt.errorf", "internal/reflectlite.TypeOf"], unfollowed := true, recurses := true, named := ["example.com/tend/tend.ErrInvalidOption"], ifaces := true, apart := false, laid := [("example.com/tend/tend.ErrInvalidOption", laid_example_com_tend_tend_ErrInvalidOption)] }
/-- NO THEOREM (fmt's text is open here; it may be false): for the released tool's asking of the row's closed facts alone. THE STATEMENT IS 'LawS2364CApplyToldSaid' (YbulkavxyFmtCards.lean). -/
def LawS2364CApplyFormAsk : Prop := lawS2364CApplyRow.holds Ybaf.pinned (OpenSpec.ofChange lawS2364CApplySpec)

/-- ITS FALSE NEIGHBOUR: 'it returns false'. Refute it at one input. -/
def lawS2364CApplyWrong : ChangeSpec := { name := "lawS2364CApply", vars := ["example.com/tend/tend.ErrInvalidOption"], fn := fun _ => fun
  | [d1, d2, d3, d4, d5, d6, g1] => { results := [.lit (.bool false)], args := [d1, d2, d3, d4, d5, d6], vars := [g1] }
  | _ => none }
def LawS2364CApplyWrongFormAsk : Prop := lawS2364CApplyRow.holds Ybaf.pinned (OpenSpec.ofChange lawS2364CApplyWrong)

/-- 'tend.LawS2364CTwice': WHATEVER THE INPUT: true; the input reads as it did. -/
def lawS2364CTwiceSpec : ChangeSpec := { name := "lawS2364CTwice", vars := ["example.com/tend/tend.ErrInvalidOption"], fn := fun _ => fun
  | [d, g1] => { results := [.lit (.bool true)], args := [d], vars := [g1] }
  | _ => none }
def lawS2364CTwiceRow : OpenClaim := { program := "ybulkavxyfmt", sum := "f01ddc47367a16b8ed35680ddfad3be8fea40bd0aa732b2bbced081cbb677cda", func := "example.com/tend/tend.LawS2364CTwice", spec := "lawS2364CTwice", stops := ["fmt.errorf"], inPlace := ["fmt.errorf"], unfollowed := true, recurses := true, named := ["example.com/tend/tend.ErrInvalidOption"], ifaces := true, apart := false, laid := [("example.com/tend/tend.ErrInvalidOption", laid_example_com_tend_tend_ErrInvalidOption)] }
/-- NO THEOREM (fmt's text is open here; it may be false): for the released tool's asking of the row's closed facts alone. THE STATEMENT IS 'LawS2364CTwiceToldSaid' (YbulkavxyFmtCards.lean). -/
def LawS2364CTwiceFormAsk : Prop := lawS2364CTwiceRow.holds Ybaf.pinned (OpenSpec.ofChange lawS2364CTwiceSpec)

/-- ITS FALSE NEIGHBOUR: 'it returns false'. Refute it at one input. -/
def lawS2364CTwiceWrong : ChangeSpec := { name := "lawS2364CTwice", vars := ["example.com/tend/tend.ErrInvalidOption"], fn := fun _ => fun
  | [d, g1] => { results := [.lit (.bool false)], args := [d], vars := [g1] }
  | _ => none }
def LawS2364CTwiceWrongFormAsk : Prop := lawS2364CTwiceRow.holds Ybaf.pinned (OpenSpec.ofChange lawS2364CTwiceWrong)

end Rows
end Go.Proofs.YbulkavxyFmt
