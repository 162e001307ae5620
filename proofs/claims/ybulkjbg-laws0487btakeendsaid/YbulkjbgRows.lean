/-
  No cell of these rows narrows 'for every input' (looked for: loops, veiled, ifaces, maps, wideKeys, modest, calm, conditions, laid).
  DERIVED. THE GIVEN ROWS OF THIS SEAT. 2 by the template 'for every input the law returns true; each argument reads behind the call as it read before'; 0 by the template 'total and deterministic' (their statements: YbulkjbgTotals.lean).
  GIVEN WITH THE SEED: the statements are not yours to turn. If you find one false, say at which input.
  Laid BY PROGRAM, IN A SANDBOX (cutbox-rows.mjs): the forced cells as the released guide's own fill.sh prints them over the translation 1267183ce5326828… (all of the seat's roots in one cut). By AI agents, Wed Nov 11 2026. No macro, syntax, notation, axiom, sorry.
-/
import Derived.Test.YbulkjbgChecked
import GoSem.Claim
import GoSem.ClaimJoined
import GoSem.ClaimMapViews
import Derived.JoinedTies
import Derived.KernelRfl
namespace Go.Proofs.Ybulkjbg
/- THE CELL 'sum', in the pinned program and in every row, IS THE sha256 OF THE DUMP (.gsa) THAT YbulkjbgProg.lean LOADS. Nothing in Lean hashes anything: it is a label: what it is worth is what the hold of that sum in a sandbox is worth. -/
noncomputable def Yba.pinned : Pinned := { name := "ybulkjbg", sum := "1267183ce5326828cb3feace80e0c725670bcd1b42fb128ddedfc38fd5c46eeb", checked := Yba.checked }
namespace Rows
def none {H : Type} : Left H := { results := [], args := [] }

/-- 'node.LawS0487BExact': WHATEVER THE INPUT: true; the input reads as it did. -/
def lawS0487BExactSpec : ChangeSpec := { name := "lawS0487BExact", fn := fun _ => fun
  | [d1, d2, d3] => { results := [.lit (.bool true)], args := [d1, d2, d3] }
  | _ => none }
def lawS0487BExactRow : OpenClaim := { program := "ybulkjbg", sum := "1267183ce5326828cb3feace80e0c725670bcd1b42fb128ddedfc38fd5c46eeb", func := "example.com/ringfinger/ringfinger/node.LawS0487BExact", spec := "lawS0487BExact", inPlace := ["(*internal/sync.Mutex).Lock", "internal/race.Disable", "sync/atomic.CompareAndSwapInt32", "internal/race.Enable", "internal/race.Acquire", "(*internal/sync.Mutex).lockSlow", "internal/sync.runtime_canSpin", "internal/sync.runtime_doSpin", "internal/sync.throw", "internal/sync.runtime_nanotime", "internal/sync.runtime_SemacquireMutex", "sync/atomic.AddInt32", "(*internal/sync.Mutex).Unlock", "internal/race.ReleaseMerge", "(*internal/sync.Mutex).unlockSlow", "internal/sync.fatal", "internal/sync.runtime_Semrelease"], apart := false }
def LawS0487BExactSaid : Prop := lawS0487BExactRow.holds Yba.pinned (OpenSpec.ofChange lawS0487BExactSpec)

/-- ITS FALSE NEIGHBOUR: 'it returns false'. Refute it at one input. -/
def lawS0487BExactWrong : ChangeSpec := { name := "lawS0487BExact", fn := fun _ => fun
  | [d1, d2, d3] => { results := [.lit (.bool false)], args := [d1, d2, d3] }
  | _ => none }
def LawS0487BExactWrongFalsely : Prop := lawS0487BExactRow.holds Yba.pinned (OpenSpec.ofChange lawS0487BExactWrong)

/-- 'node.LawS0487BTakeEnd': WHATEVER THE INPUT: true; the input reads as it did. -/
def lawS0487BTakeEndSpec : ChangeSpec := { name := "lawS0487BTakeEnd", fn := fun _ => fun
  | [d1, d2] => { results := [.lit (.bool true)], args := [d1, d2] }
  | _ => none }
def lawS0487BTakeEndRow : OpenClaim := { program := "ybulkjbg", sum := "1267183ce5326828cb3feace80e0c725670bcd1b42fb128ddedfc38fd5c46eeb", func := "example.com/ringfinger/ringfinger/node.LawS0487BTakeEnd", spec := "lawS0487BTakeEnd", inPlace := ["(*internal/sync.Mutex).Lock", "internal/race.Disable", "sync/atomic.CompareAndSwapInt32", "internal/race.Enable", "internal/race.Acquire", "(*internal/sync.Mutex).lockSlow", "internal/sync.runtime_canSpin", "internal/sync.runtime_doSpin", "internal/sync.throw", "internal/sync.runtime_nanotime", "internal/sync.runtime_SemacquireMutex", "sync/atomic.AddInt32", "(*internal/sync.Mutex).Unlock", "internal/race.ReleaseMerge", "(*internal/sync.Mutex).unlockSlow", "internal/sync.fatal", "internal/sync.runtime_Semrelease"], apart := false }
def LawS0487BTakeEndSaid : Prop := lawS0487BTakeEndRow.holds Yba.pinned (OpenSpec.ofChange lawS0487BTakeEndSpec)

/-- ITS FALSE NEIGHBOUR: 'it returns false'. Refute it at one input. -/
def lawS0487BTakeEndWrong : ChangeSpec := { name := "lawS0487BTakeEnd", fn := fun _ => fun
  | [d1, d2] => { results := [.lit (.bool false)], args := [d1, d2] }
  | _ => none }
def LawS0487BTakeEndWrongFalsely : Prop := lawS0487BTakeEndRow.holds Yba.pinned (OpenSpec.ofChange lawS0487BTakeEndWrong)

end Rows
end Go.Proofs.Ybulkjbg
