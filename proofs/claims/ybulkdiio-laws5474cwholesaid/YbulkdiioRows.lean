/-
  No cell of these rows narrows 'for every input' (looked for: loops, veiled, ifaces, maps, wideKeys, modest, calm, conditions, laid).
  DERIVED. THE GIVEN ROWS OF THIS SEAT. 3 by the template 'for every input the law returns true; each argument reads behind the call as it read before'; 0 by the template 'total and deterministic' (their statements: YbulkdiioTotals.lean).
  GIVEN WITH THE SEED: the statements are not yours to turn. If you find one false, say at which input.
  Laid BY PROGRAM, IN A SANDBOX (cutbox-rows.mjs): the forced cells as the released guide's own fill.sh prints them over the translation 5a9f7cfae81b6257… (all of the seat's roots in one cut). By AI agents, Wed Nov 11 2026. No macro, syntax, notation, axiom, sorry.
-/
import Derived.Test.YbulkdiioChecked
import GoSem.Claim
import GoSem.ClaimJoined
import GoSem.ClaimMapViews
import Derived.JoinedTies
import Derived.KernelRfl
namespace Go.Proofs.Ybulkdiio
/- THE CELL 'sum', in the pinned program and in every row, IS THE sha256 OF THE DUMP (.gsa) THAT YbulkdiioProg.lean LOADS. Nothing in Lean hashes anything: it is a label: what it is worth is what the hold of that sum in a sandbox is worth. -/
noncomputable def Yba.pinned : Pinned := { name := "ybulkdiio", sum := "5a9f7cfae81b6257a92e9a8952c6aa5fe9aafc8ab1c52ed103986af396a8ae66", checked := Yba.checked }
namespace Rows
def none {H : Type} : Left H := { results := [], args := [] }

/-- 'dump.LawS5474BWhole': WHATEVER THE INPUT: true; the input reads as it did. -/
def lawS5474BWholeSpec : ChangeSpec := { name := "lawS5474BWhole", fn := fun _ => fun
  | [d1, d2, d3] => { results := [.lit (.bool true)], args := [d1, d2, d3] }
  | _ => none }
def lawS5474BWholeRow : OpenClaim := { program := "ybulkdiio", sum := "5a9f7cfae81b6257a92e9a8952c6aa5fe9aafc8ab1c52ed103986af396a8ae66", func := "example.com/herdline/herdline/dump.LawS5474BWhole", spec := "lawS5474BWhole", inPlace := ["internal/bytealg.IndexByteString"], apart := false }
def LawS5474BWholeSaid : Prop := lawS5474BWholeRow.holds Yba.pinned (OpenSpec.ofChange lawS5474BWholeSpec)

/-- ITS FALSE NEIGHBOUR: 'it returns false'. Refute it at one input. -/
def lawS5474BWholeWrong : ChangeSpec := { name := "lawS5474BWhole", fn := fun _ => fun
  | [d1, d2, d3] => { results := [.lit (.bool false)], args := [d1, d2, d3] }
  | _ => none }
def LawS5474BWholeWrongFalsely : Prop := lawS5474BWholeRow.holds Yba.pinned (OpenSpec.ofChange lawS5474BWholeWrong)

/-- 'dump.LawS5474BPicked': WHATEVER THE INPUT: true; the input reads as it did. -/
def lawS5474BPickedSpec : ChangeSpec := { name := "lawS5474BPicked", fn := fun _ => fun
  | [d1, d2] => { results := [.lit (.bool true)], args := [d1, d2] }
  | _ => none }
def lawS5474BPickedRow : OpenClaim := { program := "ybulkdiio", sum := "5a9f7cfae81b6257a92e9a8952c6aa5fe9aafc8ab1c52ed103986af396a8ae66", func := "example.com/herdline/herdline/dump.LawS5474BPicked", spec := "lawS5474BPicked", inPlace := ["internal/bytealg.IndexByteString"], apart := false }
def LawS5474BPickedSaid : Prop := lawS5474BPickedRow.holds Yba.pinned (OpenSpec.ofChange lawS5474BPickedSpec)

/-- ITS FALSE NEIGHBOUR: 'it returns false'. Refute it at one input. -/
def lawS5474BPickedWrong : ChangeSpec := { name := "lawS5474BPicked", fn := fun _ => fun
  | [d1, d2] => { results := [.lit (.bool false)], args := [d1, d2] }
  | _ => none }
def LawS5474BPickedWrongFalsely : Prop := lawS5474BPickedRow.holds Yba.pinned (OpenSpec.ofChange lawS5474BPickedWrong)

/-- 'dump.LawS5474CWhole': WHATEVER THE INPUT: true; the input reads as it did. -/
def lawS5474CWholeSpec : ChangeSpec := { name := "lawS5474CWhole", fn := fun _ => fun
  | [d1, d2] => { results := [.lit (.bool true)], args := [d1, d2] }
  | _ => none }
def lawS5474CWholeRow : OpenClaim := { program := "ybulkdiio", sum := "5a9f7cfae81b6257a92e9a8952c6aa5fe9aafc8ab1c52ed103986af396a8ae66", func := "example.com/herdline/herdline/dump.LawS5474CWhole", spec := "lawS5474CWhole", apart := false }
def LawS5474CWholeSaid : Prop := lawS5474CWholeRow.holds Yba.pinned (OpenSpec.ofChange lawS5474CWholeSpec)

/-- ITS FALSE NEIGHBOUR: 'it returns false'. Refute it at one input. -/
def lawS5474CWholeWrong : ChangeSpec := { name := "lawS5474CWhole", fn := fun _ => fun
  | [d1, d2] => { results := [.lit (.bool false)], args := [d1, d2] }
  | _ => none }
def LawS5474CWholeWrongFalsely : Prop := lawS5474CWholeRow.holds Yba.pinned (OpenSpec.ofChange lawS5474CWholeWrong)

end Rows
end Go.Proofs.Ybulkdiio
