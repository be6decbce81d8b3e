/-
  No cell of these rows narrows 'for every input' (looked for: loops, veiled, ifaces, maps, wideKeys, modest, calm, conditions, laid).
  DERIVED. THE GIVEN ROWS OF THIS SEAT. 1 by the template 'for every input the law returns true; each argument reads behind the call as it read before'; 0 by the template 'total and deterministic' (their statements: YbulkdilgTotals.lean).
  GIVEN WITH THE SEED: the statements are not yours to turn. If you find one false, say at which input.
  Laid BY PROGRAM, IN A SANDBOX (cutbox-rows.mjs): the forced cells as the released guide's own fill.sh prints them over the translation a0d020549070c3c2… (all of the seat's roots in one cut). By AI agents, Wed Nov 11 2026. No macro, syntax, notation, axiom, sorry.
-/
import Derived.Test.YbulkdilgChecked
import GoSem.Claim
import GoSem.ClaimJoined
import GoSem.ClaimMapViews
import Derived.JoinedTies
import Derived.KernelRfl
namespace Go.Proofs.Ybulkdilg
/- THE CELL 'sum', in the pinned program and in every row, IS THE sha256 OF THE DUMP (.gsa) THAT YbulkdilgProg.lean LOADS. Nothing in Lean hashes anything: it is a label: what it is worth is what the hold of that sum in a sandbox is worth. -/
noncomputable def Yba.pinned : Pinned := { name := "ybulkdilg", sum := "a0d020549070c3c264f51873df6e6988aec22113d9eb7f2d0c3d95b5bc082f3a", checked := Yba.checked }
namespace Rows
def none {H : Type} : Left H := { results := [], args := [] }

/-- 'matchstone.LawS5479CWhole': WHATEVER THE INPUT: true; the input reads as it did. -/
def lawS5479CWholeSpec : ChangeSpec := { name := "lawS5479CWhole", fn := fun _ => fun
  | [d1, d2, d3] => { results := [.lit (.bool true)], args := [d1, d2, d3] }
  | _ => none }
def lawS5479CWholeRow : OpenClaim := { program := "ybulkdilg", sum := "a0d020549070c3c264f51873df6e6988aec22113d9eb7f2d0c3d95b5bc082f3a", func := "example.com/matchstone/matchstone.LawS5479CWhole", spec := "lawS5479CWhole", inPlace := ["slices.overlaps[example.com/matchstone/matchstone.Amount]"], recurses := true, apart := false }
def LawS5479CWholeSaid : Prop := lawS5479CWholeRow.holds Yba.pinned (OpenSpec.ofChange lawS5479CWholeSpec)

/-- ITS FALSE NEIGHBOUR: 'it returns false'. Refute it at one input. -/
def lawS5479CWholeWrong : ChangeSpec := { name := "lawS5479CWhole", fn := fun _ => fun
  | [d1, d2, d3] => { results := [.lit (.bool false)], args := [d1, d2, d3] }
  | _ => none }
def LawS5479CWholeWrongFalsely : Prop := lawS5479CWholeRow.holds Yba.pinned (OpenSpec.ofChange lawS5479CWholeWrong)

end Rows
end Go.Proofs.Ybulkdilg
