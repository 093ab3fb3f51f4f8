/-
  NARROWER THAN 'FOR EVERY INPUT', by the rows' own cells (each row's printed sentence says how): LawS2363AModel: laid · LawS2363BExact: laid · LawS2363BIdem: laid.
  DERIVED. THE GIVEN ROWS OF THIS SEAT. 3 by the template 'for every input the law returns true; each argument reads behind the call as it read before'; 0 by the template 'total and deterministic' (their statements: YbulkavxkDoorTotals.lean).
  GIVEN WITH THE SEED: the statements are not yours to turn. If you find one false, say at which input.
  Laid BY PROGRAM, IN A SANDBOX (cutbox-rows.mjs): the forced cells as the released guide's own fill.sh prints them over the translation 7ce8409bcf62d6de… (all of the seat's roots in one cut). By AI agents, Wed Nov 11 2026. No macro, syntax, notation, axiom, sorry.
-/
import Derived.Test.YbulkavxkDoorChecked
import GoSem.Claim
import GoSem.ClaimJoined
import GoSem.ClaimMapViews
import Derived.JoinedTies
import Derived.KernelRfl
namespace Go.Proofs.YbulkavxkDoor
/- THE CELL 'sum', in the pinned program and in every row, IS THE sha256 OF THE DUMP (.gsa) THAT YbulkavxkDoorProg.lean LOADS. Nothing in Lean hashes anything: it is a label: what it is worth is what the hold of that sum in a sandbox is worth. -/
noncomputable def Ybad.pinned : Pinned := { name := "ybulkavxkdoor", sum := "7ce8409bcf62d6de13639cf6bf8d175e994ac2ccbd4106ff78d701ac721200b6", checked := Ybad.checked }
namespace Rows
def none {H : Type} : Left H := { results := [], args := [] }

/- WHAT THE LISTED PACKAGE-LEVEL VARIABLES READ AS WHEN THE CALL BEGINS. Each datum BY PROGRAM (the guide's laid-datum.mjs) off the statement by which the dump's own 'gosem.cut.vars' lays the variable. In a bare row this is a premise. The card (YbulkavxkDoorCards.lean) ties it to the program's text. -/
def laid_net_netip_z4 {H : Type} : DataW H := .agg [.ptr (.agg [.lit (.bool false), .lit (.string [])])]
def laid_net_netip_z6noz {H : Type} : DataW H := .agg [.ptr (.agg [.lit (.bool true), .lit (.string [])])]
def laid_net_netip_z0 {H : Type} : DataW H := .agg [.nil]

/-- 'xorlattice.LawS2363AModel': WHATEVER THE INPUT: true; the input reads as it did. -/
def lawS2363AModelSpec : ChangeSpec := { name := "lawS2363AModel", fn := fun _ => fun
  | [d1, d2] => { results := [.lit (.bool true)], args := [d1, d2] }
  | _ => none }
def lawS2363AModelRow : OpenClaim := { program := "ybulkavxkdoor", sum := "7ce8409bcf62d6de13639cf6bf8d175e994ac2ccbd4106ff78d701ac721200b6", func := "example.com/xorlattice/xorlattice.LawS2363AModel", spec := "lawS2363AModel", unfollowed := true, recurses := true, named := ["net/netip.z4", "net/netip.z6noz", "net/netip.z0"], apart := false, laid := [("net/netip.z4", laid_net_netip_z4), ("net/netip.z6noz", laid_net_netip_z6noz), ("net/netip.z0", laid_net_netip_z0)] }
def LawS2363AModelSaid : Prop := lawS2363AModelRow.holds Ybad.pinned (OpenSpec.ofChange lawS2363AModelSpec)

/-- ITS FALSE NEIGHBOUR: 'it returns false'. Refute it at one input. -/
def lawS2363AModelWrong : ChangeSpec := { name := "lawS2363AModel", fn := fun _ => fun
  | [d1, d2] => { results := [.lit (.bool false)], args := [d1, d2] }
  | _ => none }
def LawS2363AModelWrongFalsely : Prop := lawS2363AModelRow.holds Ybad.pinned (OpenSpec.ofChange lawS2363AModelWrong)

/-- 'xorlattice.LawS2363BExact': WHATEVER THE INPUT: true; the input reads as it did. -/
def lawS2363BExactSpec : ChangeSpec := { name := "lawS2363BExact", fn := fun _ => fun
  | [d1, d2, d3, d4] => { results := [.lit (.bool true)], args := [d1, d2, d3, d4] }
  | _ => none }
def lawS2363BExactRow : OpenClaim := { program := "ybulkavxkdoor", sum := "7ce8409bcf62d6de13639cf6bf8d175e994ac2ccbd4106ff78d701ac721200b6", func := "example.com/xorlattice/xorlattice.LawS2363BExact", spec := "lawS2363BExact", named := ["net/netip.z4", "net/netip.z6noz", "net/netip.z0"], apart := false, laid := [("net/netip.z4", laid_net_netip_z4), ("net/netip.z6noz", laid_net_netip_z6noz), ("net/netip.z0", laid_net_netip_z0)] }
def LawS2363BExactSaid : Prop := lawS2363BExactRow.holds Ybad.pinned (OpenSpec.ofChange lawS2363BExactSpec)

/-- ITS FALSE NEIGHBOUR: 'it returns false'. Refute it at one input. -/
def lawS2363BExactWrong : ChangeSpec := { name := "lawS2363BExact", fn := fun _ => fun
  | [d1, d2, d3, d4] => { results := [.lit (.bool false)], args := [d1, d2, d3, d4] }
  | _ => none }
def LawS2363BExactWrongFalsely : Prop := lawS2363BExactRow.holds Ybad.pinned (OpenSpec.ofChange lawS2363BExactWrong)

/-- 'xorlattice.LawS2363BIdem': WHATEVER THE INPUT: true; the input reads as it did. -/
def lawS2363BIdemSpec : ChangeSpec := { name := "lawS2363BIdem", fn := fun _ => fun
  | [d1, d2, d3, d4] => { results := [.lit (.bool true)], args := [d1, d2, d3, d4] }
  | _ => none }
def lawS2363BIdemRow : OpenClaim := { program := "ybulkavxkdoor", sum := "7ce8409bcf62d6de13639cf6bf8d175e994ac2ccbd4106ff78d701ac721200b6", func := "example.com/xorlattice/xorlattice.LawS2363BIdem", spec := "lawS2363BIdem", named := ["net/netip.z4", "net/netip.z6noz", "net/netip.z0"], apart := false, laid := [("net/netip.z4", laid_net_netip_z4), ("net/netip.z6noz", laid_net_netip_z6noz), ("net/netip.z0", laid_net_netip_z0)] }
def LawS2363BIdemSaid : Prop := lawS2363BIdemRow.holds Ybad.pinned (OpenSpec.ofChange lawS2363BIdemSpec)

/-- ITS FALSE NEIGHBOUR: 'it returns false'. Refute it at one input. -/
def lawS2363BIdemWrong : ChangeSpec := { name := "lawS2363BIdem", fn := fun _ => fun
  | [d1, d2, d3, d4] => { results := [.lit (.bool false)], args := [d1, d2, d3, d4] }
  | _ => none }
def LawS2363BIdemWrongFalsely : Prop := lawS2363BIdemRow.holds Ybad.pinned (OpenSpec.ofChange lawS2363BIdemWrong)

end Rows
end Go.Proofs.YbulkavxkDoor
