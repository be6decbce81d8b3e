/-
  No cell of these rows narrows 'for every input' (looked for: loops, veiled, ifaces, maps, wideKeys, modest, calm, conditions, laid).
  DERIVED. THE GIVEN ROWS OF THIS SEAT. 1 by the template 'for every input the law returns true; each argument reads behind the call as it read before'; 0 by the template 'total and deterministic' (their statements: YbulkdiksTotals.lean).
  GIVEN WITH THE SEED: the statements are not yours to turn. If you find one false, say at which input.
  Laid BY PROGRAM, IN A SANDBOX (cutbox-rows.mjs): the forced cells as the released guide's own fill.sh prints them over the translation 6ff80ae27a742b3e… (all of the seat's roots in one cut). By AI agents, Wed Nov 11 2026. No macro, syntax, notation, axiom, sorry.
-/
import Derived.Test.YbulkdiksChecked
import GoSem.Claim
import GoSem.ClaimJoined
import GoSem.ClaimMapViews
import Derived.JoinedTies
import Derived.KernelRfl
namespace Go.Proofs.Ybulkdiks
/- THE CELL 'sum', in the pinned program and in every row, IS THE sha256 OF THE DUMP (.gsa) THAT YbulkdiksProg.lean LOADS. Nothing in Lean hashes anything: it is a label: what it is worth is what the hold of that sum in a sandbox is worth. -/
noncomputable def Yba.pinned : Pinned := { name := "ybulkdiks", sum := "6ff80ae27a742b3ebc059a9f56f7363ae98a3b74f99714b0e354010c9d87ca5f", checked := Yba.checked }
namespace Rows
def none {H : Type} : Left H := { results := [], args := [] }

/-- 'anchorline.LawS5478BWhole': WHATEVER THE INPUT: true; the input reads as it did. -/
def lawS5478BWholeSpec : ChangeSpec := { name := "lawS5478BWhole", fn := fun _ => fun
  | [d1, d2, d3] => { results := [.lit (.bool true)], args := [d1, d2, d3] }
  | _ => none }
def lawS5478BWholeRow : OpenClaim := { program := "ybulkdiks", sum := "6ff80ae27a742b3ebc059a9f56f7363ae98a3b74f99714b0e354010c9d87ca5f", func := "example.com/anchorline/anchorline.LawS5478BWhole", spec := "lawS5478BWhole", apart := false }
def LawS5478BWholeSaid : Prop := lawS5478BWholeRow.holds Yba.pinned (OpenSpec.ofChange lawS5478BWholeSpec)

/-- ITS FALSE NEIGHBOUR: 'it returns false'. Refute it at one input. -/
def lawS5478BWholeWrong : ChangeSpec := { name := "lawS5478BWhole", fn := fun _ => fun
  | [d1, d2, d3] => { results := [.lit (.bool false)], args := [d1, d2, d3] }
  | _ => none }
def LawS5478BWholeWrongFalsely : Prop := lawS5478BWholeRow.holds Yba.pinned (OpenSpec.ofChange lawS5478BWholeWrong)

end Rows
end Go.Proofs.Ybulkdiks
