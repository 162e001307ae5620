/-
  No cell of these rows narrows 'for every input' (looked for: loops, veiled, ifaces, maps, wideKeys, modest, calm, conditions, laid).
  DERIVED. THE GIVEN ROWS OF THIS SEAT. 1 by the template 'for every input the law returns true; each argument reads behind the call as it read before'; 0 by the template 'total and deterministic' (their statements: YbulkjbuTotals.lean).
  GIVEN WITH THE SEED: the statements are not yours to turn. If you find one false, say at which input.
  Laid BY PROGRAM, IN A SANDBOX (cutbox-rows.mjs): the forced cells as the released guide's own fill.sh prints them over the translation 00a9605e9eb89bd7… (all of the seat's roots in one cut). By AI agents, Wed Nov 11 2026. No macro, syntax, notation, axiom, sorry.
-/
import Derived.Test.YbulkjbuChecked
import GoSem.Claim
import GoSem.ClaimJoined
import GoSem.ClaimMapViews
import Derived.JoinedTies
import Derived.KernelRfl
namespace Go.Proofs.Ybulkjbu
/- THE CELL 'sum', in the pinned program and in every row, IS THE sha256 OF THE DUMP (.gsa) THAT YbulkjbuProg.lean LOADS. Nothing in Lean hashes anything: it is a label: what it is worth is what the hold of that sum in a sandbox is worth. -/
noncomputable def Yba.pinned : Pinned := { name := "ybulkjbu", sum := "00a9605e9eb89bd7a5a71af6c83f87ca1a9999ec8a874a8892dcc9583f98ce02", checked := Yba.checked }
namespace Rows
def none {H : Type} : Left H := { results := [], args := [] }

/-- 'neva.LawS0488CLayout': WHATEVER THE INPUT: true; the input reads as it did. -/
def lawS0488CLayoutSpec : ChangeSpec := { name := "lawS0488CLayout", fn := fun _ => fun
  | [d1, d2, d3, d4, d5, d6] => { results := [.lit (.bool true)], args := [d1, d2, d3, d4, d5, d6] }
  | _ => none }
def lawS0488CLayoutRow : OpenClaim := { program := "ybulkjbu", sum := "00a9605e9eb89bd7a5a71af6c83f87ca1a9999ec8a874a8892dcc9583f98ce02", func := "example.com/neva/neva.LawS0488CLayout", spec := "lawS0488CLayout", apart := false }
def LawS0488CLayoutSaid : Prop := lawS0488CLayoutRow.holds Yba.pinned (OpenSpec.ofChange lawS0488CLayoutSpec)

/-- ITS FALSE NEIGHBOUR: 'it returns false'. Refute it at one input. -/
def lawS0488CLayoutWrong : ChangeSpec := { name := "lawS0488CLayout", fn := fun _ => fun
  | [d1, d2, d3, d4, d5, d6] => { results := [.lit (.bool false)], args := [d1, d2, d3, d4, d5, d6] }
  | _ => none }
def LawS0488CLayoutWrongFalsely : Prop := lawS0488CLayoutRow.holds Yba.pinned (OpenSpec.ofChange lawS0488CLayoutWrong)

end Rows
end Go.Proofs.Ybulkjbu
