/-
  No cell of these rows narrows 'for every input' (looked for: loops, veiled, ifaces, maps, wideKeys, modest, calm, conditions, laid).
  DERIVED. THE GIVEN ROWS OF THIS SEAT. 1 by the template 'for every input the law returns true; each argument reads behind the call as it read before'; 0 by the template 'total and deterministic' (their statements: YbulkfimyTotals.lean).
  GIVEN WITH THE SEED: the statements are not yours to turn. If you find one false, say at which input.
  Laid BY PROGRAM, IN A SANDBOX (cutbox-rows.mjs): the forced cells as the released guide's own fill.sh prints them over the translation fc7b5b8445ea80a4… (all of the seat's roots in one cut). By AI agents, Wed Nov 11 2026. No macro, syntax, notation, axiom, sorry.
-/
import Derived.Test.YbulkfimyChecked
import GoSem.Claim
import GoSem.ClaimJoined
import GoSem.ClaimMapViews
import Derived.JoinedTies
import Derived.KernelRfl
namespace Go.Proofs.Ybulkfimy
/- THE CELL 'sum', in the pinned program and in every row, IS THE sha256 OF THE DUMP (.gsa) THAT YbulkfimyProg.lean LOADS. Nothing in Lean hashes anything: it is a label: what it is worth is what the hold of that sum in a sandbox is worth. -/
noncomputable def Yba.pinned : Pinned := { name := "ybulkfimy", sum := "fc7b5b8445ea80a407e22b1d177719384e5120ee153fc39902da7524b9b5afaf", checked := Yba.checked }
namespace Rows
def none {H : Type} : Left H := { results := [], args := [] }

/-- 'beforehand.LawS7993AWhole': WHATEVER THE INPUT: true; the input reads as it did. -/
def lawS7993AWholeSpec : ChangeSpec := { name := "lawS7993AWhole", fn := fun _ => fun
  | [d] => { results := [.lit (.bool true)], args := [d] }
  | _ => none }
def lawS7993AWholeRow : OpenClaim := { program := "ybulkfimy", sum := "fc7b5b8445ea80a407e22b1d177719384e5120ee153fc39902da7524b9b5afaf", func := "example.com/beforehand/beforehand.LawS7993AWhole", spec := "lawS7993AWhole", apart := false }
def LawS7993AWholeSaid : Prop := lawS7993AWholeRow.holds Yba.pinned (OpenSpec.ofChange lawS7993AWholeSpec)

/-- ITS FALSE NEIGHBOUR: 'it returns false'. Refute it at one input. -/
def lawS7993AWholeWrong : ChangeSpec := { name := "lawS7993AWhole", fn := fun _ => fun
  | [d] => { results := [.lit (.bool false)], args := [d] }
  | _ => none }
def LawS7993AWholeWrongFalsely : Prop := lawS7993AWholeRow.holds Yba.pinned (OpenSpec.ofChange lawS7993AWholeWrong)

end Rows
end Go.Proofs.Ybulkfimy
