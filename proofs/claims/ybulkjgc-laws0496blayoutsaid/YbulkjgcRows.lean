/-
  No cell of these rows narrows 'for every input' (looked for: loops, veiled, ifaces, maps, wideKeys, modest, calm, conditions, laid).
  DERIVED. THE GIVEN ROWS OF THIS SEAT. 1 by the template 'for every input the law returns true; each argument reads behind the call as it read before'; 0 by the template 'total and deterministic' (their statements: YbulkjgcTotals.lean).
  GIVEN WITH THE SEED: the statements are not yours to turn. If you find one false, say at which input.
  Laid BY PROGRAM, IN A SANDBOX (cutbox-rows.mjs): the forced cells as the released guide's own fill.sh prints them over the translation 19f6632a10147ab4… (all of the seat's roots in one cut). By AI agents, Wed Nov 11 2026. No macro, syntax, notation, axiom, sorry.
-/
import Derived.Test.YbulkjgcChecked
import GoSem.Claim
import GoSem.ClaimJoined
import GoSem.ClaimMapViews
import Derived.JoinedTies
import Derived.KernelRfl
namespace Go.Proofs.Ybulkjgc
/- THE CELL 'sum', in the pinned program and in every row, IS THE sha256 OF THE DUMP (.gsa) THAT YbulkjgcProg.lean LOADS. Nothing in Lean hashes anything: it is a label: what it is worth is what the hold of that sum in a sandbox is worth. -/
noncomputable def Yba.pinned : Pinned := { name := "ybulkjgc", sum := "19f6632a10147ab4614b02ab1c5789067105d2a63ec13416c3838c8c6bd3de25", checked := Yba.checked }
namespace Rows
def none {H : Type} : Left H := { results := [], args := [] }

/-- 'network.LawS0496BLayout': WHATEVER THE INPUT: true; the input reads as it did. -/
def lawS0496BLayoutSpec : ChangeSpec := { name := "lawS0496BLayout", fn := fun _ => fun
  | [d1, d2] => { results := [.lit (.bool true)], args := [d1, d2] }
  | _ => none }
def lawS0496BLayoutRow : OpenClaim := { program := "ybulkjgc", sum := "19f6632a10147ab4614b02ab1c5789067105d2a63ec13416c3838c8c6bd3de25", func := "example.com/ordinant/ordinant/network.LawS0496BLayout", spec := "lawS0496BLayout", apart := false }
def LawS0496BLayoutSaid : Prop := lawS0496BLayoutRow.holds Yba.pinned (OpenSpec.ofChange lawS0496BLayoutSpec)

/-- ITS FALSE NEIGHBOUR: 'it returns false'. Refute it at one input. -/
def lawS0496BLayoutWrong : ChangeSpec := { name := "lawS0496BLayout", fn := fun _ => fun
  | [d1, d2] => { results := [.lit (.bool false)], args := [d1, d2] }
  | _ => none }
def LawS0496BLayoutWrongFalsely : Prop := lawS0496BLayoutRow.holds Yba.pinned (OpenSpec.ofChange lawS0496BLayoutWrong)

end Rows
end Go.Proofs.Ybulkjgc
