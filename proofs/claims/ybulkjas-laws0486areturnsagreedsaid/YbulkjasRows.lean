/-
  No cell of these rows narrows 'for every input' (looked for: loops, veiled, ifaces, maps, wideKeys, modest, calm, conditions, laid).
  DERIVED. THE GIVEN ROWS OF THIS SEAT. 1 by the template 'for every input the law returns true; each argument reads behind the call as it read before'; 0 by the template 'total and deterministic' (their statements: YbulkjasTotals.lean).
  GIVEN WITH THE SEED: the statements are not yours to turn. If you find one false, say at which input.
  Laid BY PROGRAM, IN A SANDBOX (cutbox-rows.mjs): the forced cells as the released guide's own fill.sh prints them over the translation 4c96f39dc6e68a2a… (all of the seat's roots in one cut). By AI agents, Wed Nov 11 2026. No macro, syntax, notation, axiom, sorry.
-/
import Derived.Test.YbulkjasChecked
import GoSem.Claim
import GoSem.ClaimJoined
import GoSem.ClaimMapViews
import Derived.JoinedTies
import Derived.KernelRfl
namespace Go.Proofs.Ybulkjas
/- THE CELL 'sum', in the pinned program and in every row, IS THE sha256 OF THE DUMP (.gsa) THAT YbulkjasProg.lean LOADS. Nothing in Lean hashes anything: it is a label: what it is worth is what the hold of that sum in a sandbox is worth. -/
noncomputable def Yba.pinned : Pinned := { name := "ybulkjas", sum := "4c96f39dc6e68a2a20841a70517165f3d57e206483fcacdac4d742835255afbb", checked := Yba.checked }
namespace Rows
def none {H : Type} : Left H := { results := [], args := [] }

/-- 'member.LawS0486AReturnsAgreed': WHATEVER THE INPUT: true; the input reads as it did. -/
def lawS0486AReturnsAgreedSpec : ChangeSpec := { name := "lawS0486AReturnsAgreed", fn := fun _ => fun
  | [d1, d2, d3, d4, d5, d6, d7] => { results := [.lit (.bool true)], args := [d1, d2, d3, d4, d5, d6, d7] }
  | _ => none }
def lawS0486AReturnsAgreedRow : OpenClaim := { program := "ybulkjas", sum := "4c96f39dc6e68a2a20841a70517165f3d57e206483fcacdac4d742835255afbb", func := "example.com/keelward/keelward/member.LawS0486AReturnsAgreed", spec := "lawS0486AReturnsAgreed", inPlace := ["(*internal/sync.Mutex).Lock", "internal/race.Disable", "sync/atomic.CompareAndSwapInt32", "internal/race.Enable", "internal/race.Acquire", "(*internal/sync.Mutex).lockSlow", "internal/sync.runtime_canSpin", "internal/sync.runtime_doSpin", "internal/sync.throw", "internal/sync.runtime_nanotime", "internal/sync.runtime_SemacquireMutex", "sync/atomic.AddInt32", "(*internal/sync.Mutex).Unlock", "internal/race.ReleaseMerge", "(*internal/sync.Mutex).unlockSlow", "internal/sync.fatal", "internal/sync.runtime_Semrelease", "(*internal/sync.Mutex).TryLock"], apart := false }
def LawS0486AReturnsAgreedSaid : Prop := lawS0486AReturnsAgreedRow.holds Yba.pinned (OpenSpec.ofChange lawS0486AReturnsAgreedSpec)

/-- ITS FALSE NEIGHBOUR: 'it returns false'. Refute it at one input. -/
def lawS0486AReturnsAgreedWrong : ChangeSpec := { name := "lawS0486AReturnsAgreed", fn := fun _ => fun
  | [d1, d2, d3, d4, d5, d6, d7] => { results := [.lit (.bool false)], args := [d1, d2, d3, d4, d5, d6, d7] }
  | _ => none }
def LawS0486AReturnsAgreedWrongFalsely : Prop := lawS0486AReturnsAgreedRow.holds Yba.pinned (OpenSpec.ofChange lawS0486AReturnsAgreedWrong)

end Rows
end Go.Proofs.Ybulkjas
