/-
  No cell of these rows narrows 'for every input' (looked for: loops, veiled, ifaces, maps, wideKeys, modest, calm, conditions, laid).
  DERIVED. THE GIVEN ROWS OF THIS SEAT. 3 by the template 'for every input the law returns true; each argument reads behind the call as it read before'; 0 by the template 'total and deterministic' (their statements: YbulkavymTotals.lean).
  GIVEN WITH THE SEED: the statements are not yours to turn. If you find one false, say at which input.
  Laid BY PROGRAM, IN A SANDBOX (cutbox-rows.mjs): the forced cells as the released guide's own fill.sh prints them over the translation 201d4166c7f67bc8… (all of the seat's roots in one cut). By AI agents, Wed Nov 11 2026. No macro, syntax, notation, axiom, sorry.
-/
import Derived.Test.YbulkavymChecked
import GoSem.Claim
import GoSem.ClaimJoined
import GoSem.ClaimMapViews
import Derived.JoinedTies
import Derived.KernelRfl
namespace Go.Proofs.Ybulkavym
/- THE CELL 'sum', in the pinned program and in every row, IS THE sha256 OF THE DUMP (.gsa) THAT YbulkavymProg.lean LOADS. Nothing in Lean hashes anything: it is a label: what it is worth is what the hold of that sum in a sandbox is worth. -/
noncomputable def Yba.pinned : Pinned := { name := "ybulkavym", sum := "201d4166c7f67bc8a858593399fa91e6b5bc6110ac8a8b85db7d02896cde2da8", checked := Yba.checked }
namespace Rows
def none {H : Type} : Left H := { results := [], args := [] }

/-- 'history.LawS2365BRun': WHATEVER THE INPUT: true; the input reads as it did. -/
def lawS2365BRunSpec : ChangeSpec := { name := "lawS2365BRun", fn := fun _ => fun
  | [d] => { results := [.lit (.bool true)], args := [d] }
  | _ => none }
def lawS2365BRunRow : OpenClaim := { program := "ybulkavym", sum := "201d4166c7f67bc8a858593399fa91e6b5bc6110ac8a8b85db7d02896cde2da8", func := "example.com/interlace/interlace/history.LawS2365BRun", spec := "lawS2365BRun", apart := false }
def LawS2365BRunSaid : Prop := lawS2365BRunRow.holds Yba.pinned (OpenSpec.ofChange lawS2365BRunSpec)

/-- ITS FALSE NEIGHBOUR: 'it returns false'. Refute it at one input. -/
def lawS2365BRunWrong : ChangeSpec := { name := "lawS2365BRun", fn := fun _ => fun
  | [d] => { results := [.lit (.bool false)], args := [d] }
  | _ => none }
def LawS2365BRunWrongFalsely : Prop := lawS2365BRunRow.holds Yba.pinned (OpenSpec.ofChange lawS2365BRunWrong)

/-- 'history.LawS2365BPrefix': WHATEVER THE INPUT: true; the input reads as it did. -/
def lawS2365BPrefixSpec : ChangeSpec := { name := "lawS2365BPrefix", fn := fun _ => fun
  | [d1, d2] => { results := [.lit (.bool true)], args := [d1, d2] }
  | _ => none }
def lawS2365BPrefixRow : OpenClaim := { program := "ybulkavym", sum := "201d4166c7f67bc8a858593399fa91e6b5bc6110ac8a8b85db7d02896cde2da8", func := "example.com/interlace/interlace/history.LawS2365BPrefix", spec := "lawS2365BPrefix", apart := false }
def LawS2365BPrefixSaid : Prop := lawS2365BPrefixRow.holds Yba.pinned (OpenSpec.ofChange lawS2365BPrefixSpec)

/-- ITS FALSE NEIGHBOUR: 'it returns false'. Refute it at one input. -/
def lawS2365BPrefixWrong : ChangeSpec := { name := "lawS2365BPrefix", fn := fun _ => fun
  | [d1, d2] => { results := [.lit (.bool false)], args := [d1, d2] }
  | _ => none }
def LawS2365BPrefixWrongFalsely : Prop := lawS2365BPrefixRow.holds Yba.pinned (OpenSpec.ofChange lawS2365BPrefixWrong)

/-- 'versions.LawS2365CSettles': WHATEVER THE INPUT: true; the input reads as it did. -/
def lawS2365CSettlesSpec : ChangeSpec := { name := "lawS2365CSettles", fn := fun _ => fun
  | [d1, d2, d3] => { results := [.lit (.bool true)], args := [d1, d2, d3] }
  | _ => none }
def lawS2365CSettlesRow : OpenClaim := { program := "ybulkavym", sum := "201d4166c7f67bc8a858593399fa91e6b5bc6110ac8a8b85db7d02896cde2da8", func := "example.com/interlace/interlace/internal/versions.LawS2365CSettles", spec := "lawS2365CSettles", inPlace := ["(*internal/sync.Mutex).Lock", "internal/race.Disable", "sync/atomic.CompareAndSwapInt32", "internal/race.Enable", "internal/race.Acquire", "(*internal/sync.Mutex).lockSlow", "internal/sync.runtime_canSpin", "internal/sync.runtime_doSpin", "internal/sync.throw", "internal/sync.runtime_nanotime", "internal/sync.runtime_SemacquireMutex", "sync/atomic.AddInt32", "(*internal/sync.Mutex).Unlock", "internal/race.ReleaseMerge", "(*internal/sync.Mutex).unlockSlow", "internal/sync.fatal", "internal/sync.runtime_Semrelease"], apart := false }
def LawS2365CSettlesSaid : Prop := lawS2365CSettlesRow.holds Yba.pinned (OpenSpec.ofChange lawS2365CSettlesSpec)

/-- ITS FALSE NEIGHBOUR: 'it returns false'. Refute it at one input. -/
def lawS2365CSettlesWrong : ChangeSpec := { name := "lawS2365CSettles", fn := fun _ => fun
  | [d1, d2, d3] => { results := [.lit (.bool false)], args := [d1, d2, d3] }
  | _ => none }
def LawS2365CSettlesWrongFalsely : Prop := lawS2365CSettlesRow.holds Yba.pinned (OpenSpec.ofChange lawS2365CSettlesWrong)

end Rows
end Go.Proofs.Ybulkavym
