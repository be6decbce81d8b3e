/-
  No cell of these rows narrows 'for every input' (looked for: loops, veiled, ifaces, maps, wideKeys, modest, calm, conditions, laid).
  DERIVED. THE GIVEN ROWS OF THIS SEAT. 3 by the template 'for every input the law returns true; each argument reads behind the call as it read before'; 0 by the template 'total and deterministic' (their statements: YbulkdikeTotals.lean).
  GIVEN WITH THE SEED: the statements are not yours to turn. If you find one false, say at which input.
  Laid BY PROGRAM, IN A SANDBOX (cutbox-rows.mjs): the forced cells as the released guide's own fill.sh prints them over the translation 9fcb3c7bf0f0bdd4… (all of the seat's roots in one cut). By AI agents, Wed Nov 11 2026. No macro, syntax, notation, axiom, sorry.
-/
import Derived.Test.YbulkdikeChecked
import GoSem.Claim
import GoSem.ClaimJoined
import GoSem.ClaimMapViews
import Derived.JoinedTies
import Derived.KernelRfl
namespace Go.Proofs.Ybulkdike
/- THE CELL 'sum', in the pinned program and in every row, IS THE sha256 OF THE DUMP (.gsa) THAT YbulkdikeProg.lean LOADS. Nothing in Lean hashes anything: it is a label: what it is worth is what the hold of that sum in a sandbox is worth. -/
noncomputable def Yba.pinned : Pinned := { name := "ybulkdike", sum := "9fcb3c7bf0f0bdd4c0f3fce0c12a44af77970b041e04db83a3b462d81f198daf", checked := Yba.checked }
namespace Rows
def none {H : Type} : Left H := { results := [], args := [] }

/-- 'eindhoven.LawS5477AWhole': WHATEVER THE INPUT: true; the input reads as it did. -/
def lawS5477AWholeSpec : ChangeSpec := { name := "lawS5477AWhole", fn := fun _ => fun
  | [d] => { results := [.lit (.bool true)], args := [d] }
  | _ => none }
def lawS5477AWholeRow : OpenClaim := { program := "ybulkdike", sum := "9fcb3c7bf0f0bdd4c0f3fce0c12a44af77970b041e04db83a3b462d81f198daf", func := "example.com/eindhoven/eindhoven.LawS5477AWhole", spec := "lawS5477AWhole", inPlace := ["sync/atomic.LoadInt64"], apart := false }
def LawS5477AWholeSaid : Prop := lawS5477AWholeRow.holds Yba.pinned (OpenSpec.ofChange lawS5477AWholeSpec)

/-- ITS FALSE NEIGHBOUR: 'it returns false'. Refute it at one input. -/
def lawS5477AWholeWrong : ChangeSpec := { name := "lawS5477AWhole", fn := fun _ => fun
  | [d] => { results := [.lit (.bool false)], args := [d] }
  | _ => none }
def LawS5477AWholeWrongFalsely : Prop := lawS5477AWholeRow.holds Yba.pinned (OpenSpec.ofChange lawS5477AWholeWrong)

/-- 'eindhoven.LawS5477AFresh': WHATEVER THE INPUT: true; the input reads as it did. -/
def lawS5477AFreshSpec : ChangeSpec := { name := "lawS5477AFresh", fn := fun _ => fun
  | [d] => { results := [.lit (.bool true)], args := [d] }
  | _ => none }
def lawS5477AFreshRow : OpenClaim := { program := "ybulkdike", sum := "9fcb3c7bf0f0bdd4c0f3fce0c12a44af77970b041e04db83a3b462d81f198daf", func := "example.com/eindhoven/eindhoven.LawS5477AFresh", spec := "lawS5477AFresh", inPlace := ["sync/atomic.StoreInt64", "sync/atomic.LoadInt64"], apart := false }
def LawS5477AFreshSaid : Prop := lawS5477AFreshRow.holds Yba.pinned (OpenSpec.ofChange lawS5477AFreshSpec)

/-- ITS FALSE NEIGHBOUR: 'it returns false'. Refute it at one input. -/
def lawS5477AFreshWrong : ChangeSpec := { name := "lawS5477AFresh", fn := fun _ => fun
  | [d] => { results := [.lit (.bool false)], args := [d] }
  | _ => none }
def LawS5477AFreshWrongFalsely : Prop := lawS5477AFreshRow.holds Yba.pinned (OpenSpec.ofChange lawS5477AFreshWrong)

/-- 'eindhoven.LawS5477BWhole': WHATEVER THE INPUT: true; the input reads as it did. -/
def lawS5477BWholeSpec : ChangeSpec := { name := "lawS5477BWhole", fn := fun _ => fun
  | [d1, d2] => { results := [.lit (.bool true)], args := [d1, d2] }
  | _ => none }
def lawS5477BWholeRow : OpenClaim := { program := "ybulkdike", sum := "9fcb3c7bf0f0bdd4c0f3fce0c12a44af77970b041e04db83a3b462d81f198daf", func := "example.com/eindhoven/eindhoven.LawS5477BWhole", spec := "lawS5477BWhole", inPlace := ["sync/atomic.StoreInt32", "sync/atomic.StoreUint32", "sync/atomic.LoadInt32", "sync/atomic.CompareAndSwapInt32", "sync/atomic.LoadUint32"], apart := false }
def LawS5477BWholeSaid : Prop := lawS5477BWholeRow.holds Yba.pinned (OpenSpec.ofChange lawS5477BWholeSpec)

/-- ITS FALSE NEIGHBOUR: 'it returns false'. Refute it at one input. -/
def lawS5477BWholeWrong : ChangeSpec := { name := "lawS5477BWhole", fn := fun _ => fun
  | [d1, d2] => { results := [.lit (.bool false)], args := [d1, d2] }
  | _ => none }
def LawS5477BWholeWrongFalsely : Prop := lawS5477BWholeRow.holds Yba.pinned (OpenSpec.ofChange lawS5477BWholeWrong)

end Rows
end Go.Proofs.Ybulkdike
