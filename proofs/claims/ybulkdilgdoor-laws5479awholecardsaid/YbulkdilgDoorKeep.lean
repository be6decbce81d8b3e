import Derived.Test.YbulkdilgDoorSplit
namespace Go.Proofs.YbulkdilgDoor
open Go.RowKit
set_option maxRecDepth 100000
set_option linter.unusedVariables false
set_option linter.unusedSimpArgs false
set_option linter.unnecessarySimpa false

/-- Of the blocks in K nothing but the side's and the chunk's has turned. -/
structure Keep (K : Nat → Prop) (sb cb : Nat) (w w' : World) : Prop where
  os : w'.os = w.os
  tape : w'.tape = w.tape
  output : w'.output = w.output
  size : w.heap.size ≤ w'.heap.size
  block : ∀ k, K k → k ≠ sb → k ≠ cb → w'.heap[k]? = w.heap[k]?
section
variable {K : Nat → Prop} {sb cb : Nat}
theorem Keep.refl (K : Nat → Prop) (sb cb : Nat) (w : World) : Keep K sb cb w w := ⟨rfl, rfl, rfl, Nat.le_refl _, fun _ _ _ _ => rfl⟩
theorem Keep.trans {a b c : World} (h : Keep K sb cb a b) (k : Keep K sb cb b c) : Keep K sb cb a c :=
  ⟨k.os.trans h.os, k.tape.trans h.tape, k.output.trans h.output, Nat.le_trans h.size k.size, fun i h1 h2 h3 => (k.block i h1 h2 h3).trans (h.block i h1 h2 h3)⟩
theorem Keep.set {a w : World} (h : Keep K sb cb a w) {b i : Nat} {x : Value} (hb : ¬ K b ∨ b = sb ∨ b = cb) : Keep K sb cb a (w.setCell ⟨b, i, none⟩ x) :=
  h.trans ⟨rfl, rfl, rfl, by simp [World.setCell], fun k h1 h2 h3 => Below.heap_setCell _ _ _ _ (fun e => by
    have e' : k = b := e
    rcases hb with hb | hb | hb
    · exact hb (e' ▸ h1)
    · exact h2 (e'.trans hb)
    · exact h3 (e'.trans hb))⟩
theorem Keep.drewN {a w : World} (h : Keep K sb cb a w) (n : Nat) : Keep K sb cb a (w.drewN n) := ⟨h.os, h.tape, h.output, h.size, h.block⟩
theorem Keep.below {a w w' : World} (h : Keep K sb cb a w) {B : Nat} (hb : Below B w w') (hl : ∀ k, K k → k < B) : Keep K sb cb a w' :=
  h.trans ⟨hb.os, hb.tape, hb.output, hb.size, fun k h1 _ _ => hb.block k (hl k h1)⟩
theorem Keep.grew {a w w' : World} {ds : List Nat} (h : Keep K sb cb a w) (hg : Grew (sb :: ds) w w') (hd : ∀ b, b ∈ ds → ¬ K b) (hl : ∀ k, K k → k < w.heap.size) : Keep K sb cb a w' :=
  h.trans ⟨hg.os, hg.tape, hg.output, hg.size, fun k h1 h2 _ => hg.block k (hl k h1) (fun hc => by
    rcases List.mem_cons.1 hc with e | e
    · exact h2 e
    · exact hd k e h1)⟩
end
end Go.Proofs.YbulkdilgDoor
