/-
  No cell of these rows narrows 'for every input' (looked for: loops, veiled, ifaces, maps, wideKeys, modest, calm, conditions, laid).
  DERIVED. THE GIVEN ROWS OF THIS SEAT. 1 by the template 'for every input the law returns true; each argument reads behind the call as it read before'; 0 by the template 'total and deterministic' (their statements: YbulkfhvsTotals.lean).
  GIVEN WITH THE SEED: the statements are not yours to turn. If you find one false, say at which input.
  Laid BY PROGRAM, IN A SANDBOX (cutbox-rows.mjs): the forced cells as the released guide's own fill.sh prints them over the translation 269ec49336132cea… (all of the seat's roots in one cut). By AI agents, Wed Nov 11 2026. No macro, syntax, notation, axiom, sorry.
-/
import Derived.Test.YbulkfhvsChecked
import GoSem.Claim
import GoSem.ClaimJoined
import GoSem.ClaimMapViews
import Derived.JoinedTies
import Derived.KernelRfl
namespace Go.Proofs.Ybulkfhvs
/- THE CELL 'sum', in the pinned program and in every row, IS THE sha256 OF THE DUMP (.gsa) THAT YbulkfhvsProg.lean LOADS. Nothing in Lean hashes anything: it is a label: what it is worth is what the hold of that sum in a sandbox is worth. -/
noncomputable def Yba.pinned : Pinned := { name := "ybulkfhvs", sum := "269ec49336132cea6af8f419b09f62ed38712db442201d0cc37b22eb1a7f6973", checked := Yba.checked }
namespace Rows
def none {H : Type} : Left H := { results := [], args := [] }

/-- 'green-room.LawS7961AWhole': WHATEVER THE INPUT: true; the input reads as it did. -/
def lawS7961AWholeSpec : ChangeSpec := { name := "lawS7961AWhole", fn := fun _ => fun
  | [d1, d2] => { results := [.lit (.bool true)], args := [d1, d2] }
  | _ => none }
def lawS7961AWholeRow : OpenClaim := { program := "ybulkfhvs", sum := "269ec49336132cea6af8f419b09f62ed38712db442201d0cc37b22eb1a7f6973", func := "example.com/green-room/green-room.LawS7961AWhole", spec := "lawS7961AWhole", apart := false }
def LawS7961AWholeSaid : Prop := lawS7961AWholeRow.holds Yba.pinned (OpenSpec.ofChange lawS7961AWholeSpec)

/-- ITS FALSE NEIGHBOUR: 'it returns false'. Refute it at one input. -/
def lawS7961AWholeWrong : ChangeSpec := { name := "lawS7961AWhole", fn := fun _ => fun
  | [d1, d2] => { results := [.lit (.bool false)], args := [d1, d2] }
  | _ => none }
def LawS7961AWholeWrongFalsely : Prop := lawS7961AWholeRow.holds Yba.pinned (OpenSpec.ofChange lawS7961AWholeWrong)

end Rows
end Go.Proofs.Ybulkfhvs
