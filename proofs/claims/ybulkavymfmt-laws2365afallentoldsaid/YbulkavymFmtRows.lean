/-
  No cell of these rows narrows 'for every input' (looked for: loops, veiled, ifaces, maps, wideKeys, modest, calm, conditions, laid).
  DERIVED. THE GIVEN ROWS OF THIS SEAT. 1 by the template 'for every input the law returns true; each argument reads behind the call as it read before'; 0 by the template 'total and deterministic' (their statements: YbulkavymFmtTotals.lean).
  GIVEN WITH THE SEED: the statements are not yours to turn. If you find one false, say at which input.
  Laid BY PROGRAM, IN A SANDBOX (cutbox-rows.mjs): the forced cells as the released guide's own fill.sh prints them over the translation 0f7704570431f7c3… (all of the seat's roots in one cut). By AI agents, Wed Nov 11 2026. No macro, syntax, notation, axiom, sorry.
-/
import Derived.Test.YbulkavymFmtChecked
import GoSem.Claim
import GoSem.ClaimJoined
import GoSem.ClaimMapViews
import Derived.JoinedTies
import Derived.KernelRfl
namespace Go.Proofs.YbulkavymFmt
/- THE CELL 'sum', in the pinned program and in every row, IS THE sha256 OF THE DUMP (.gsa) THAT YbulkavymFmtProg.lean LOADS. Nothing in Lean hashes anything: it is a label: what it is worth is what the hold of that sum in a sandbox is worth. -/
noncomputable def Ybaf.pinned : Pinned := { name := "ybulkavymfmt", sum := "0f7704570431f7c318a1e981f777a9138c15fe70a5d8dcc3938b42e9247f098b", checked := Ybaf.checked }
namespace Rows
def none {H : Type} : Left H := { results := [], args := [] }

/-- 'optimistic.LawS2365AFallen': WHATEVER THE INPUT: true; the input reads as it did. -/
def lawS2365AFallenSpec : ChangeSpec := { name := "lawS2365AFallen", fn := fun _ => fun
  | [d1, d2, d3, d4] => { results := [.lit (.bool true)], args := [d1, d2, d3, d4] }
  | _ => none }
def lawS2365AFallenRow : OpenClaim := { program := "ybulkavymfmt", sum := "0f7704570431f7c318a1e981f777a9138c15fe70a5d8dcc3938b42e9247f098b", func := "example.com/interlace/interlace/internal/optimistic.LawS2365AFallen", spec := "lawS2365AFallen", stops := ["fmt.errorf"], inPlace := ["fmt.errorf"], apart := false }
/-- NO THEOREM (fmt's text is open here; it may be false): for the released tool's asking of the row's closed facts alone. THE STATEMENT IS 'LawS2365AFallenToldSaid' (YbulkavymFmtCards.lean). -/
def LawS2365AFallenFormAsk : Prop := lawS2365AFallenRow.holds Ybaf.pinned (OpenSpec.ofChange lawS2365AFallenSpec)

/-- ITS FALSE NEIGHBOUR: 'it returns false'. Refute it at one input. -/
def lawS2365AFallenWrong : ChangeSpec := { name := "lawS2365AFallen", fn := fun _ => fun
  | [d1, d2, d3, d4] => { results := [.lit (.bool false)], args := [d1, d2, d3, d4] }
  | _ => none }
def LawS2365AFallenWrongFormAsk : Prop := lawS2365AFallenRow.holds Ybaf.pinned (OpenSpec.ofChange lawS2365AFallenWrong)

end Rows
end Go.Proofs.YbulkavymFmt
