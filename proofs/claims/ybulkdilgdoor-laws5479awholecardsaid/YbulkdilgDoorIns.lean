import Derived.Test.YbulkdilgDoorAcc
namespace Go.Proofs.YbulkdilgDoor
open Go.RowKit
set_option maxRecDepth 100000
set_option linter.unusedVariables false
set_option linter.unusedSimpArgs false
set_option linter.unnecessarySimpa false

/-- A new level's record. -/
def lv0 (p : Int) (bet wor : Option Nat) : Lv := { price := p, hi := 0, lo := 0, orders := 0, head := 0, tail := 0, worse := wor, better := bet, left := none, right := none, height := 1 }

set_option maxHeartbeats 400000 in
theorem insert_nn (sb : Nat) (p : Int) (xr : Option Addr) (w : World) (Z : Option Addr → World → Prop) (hsb : sb < w.heap.size)
    (c1 : w.cell? ⟨sb, 1, none⟩ = some (.pointer xr)) (c2 : w.cell? ⟨sb, 2, none⟩ = some (.pointer none)) (f2 : w.frozen? ⟨sb, 2, none⟩ = false)
    (C : Hid (Calls Ybad.prog 18 #[.pointer (some ⟨sb, 0, none⟩), .pointer xr, .pointer (some ⟨w.heap.size, 0, none⟩)] ((w.setCell ⟨sb, 2, none⟩ (.pointer (some ⟨w.heap.size, 0, none⟩))).alloc (.cells (cells (lv0 p none none)) 56)) fun e w' => ∃ x, e = .returned (.pointer x) ∧ Z x w'))
    (F : Hid (∀ x w', Z x w' → (∃ v, w'.cell? ⟨sb, 1, none⟩ = some v) ∧ w'.frozen? ⟨sb, 1, none⟩ = false)) :
    Calls Ybad.prog 9 #[.pointer (some ⟨sb, 0, none⟩), .int .i64 p, .pointer none] w fun e w' => e = .returned (.pointer (some ⟨w.heap.size, 0, none⟩)) ∧ ∃ x w2, Z x w2 ∧ w' = w2.setCell ⟨sb, 1, none⟩ (.pointer x) := by
  have hne : ¬ sb = w.heap.size := by omega
  have hne' : ¬ w.heap.size = sb := by omega
  go_enter Ybad.func9, Ybad.ntmps9
  go_wp2_with fail
  refine C.out.mono ?_
  rintro e w2 ⟨z, rfl, hz⟩
  obtain ⟨⟨v1, c⟩, f⟩ := F.out z w2 hz
  clear C F c1 c2 f2
  go_wp2
  go_ret
  exact ⟨rfl, z, w2, hz, rfl⟩

set_option maxHeartbeats 400000 in
theorem insert_nx (sb : Nat) (x : Nat) (p : Int) (xr : Option Addr) (w : World) (Z : Option Addr → World → Prop) (hsb : sb < w.heap.size)
    (c1 : w.cell? ⟨sb, 1, none⟩ = some (.pointer xr)) (c2 : w.cell? ⟨sb, 2, none⟩ = some (.pointer (some ⟨x, 0, none⟩))) (f2 : w.frozen? ⟨sb, 2, none⟩ = false) (hx : x < w.heap.size) (hxs : x ≠ sb) (d : ∃ v, w.cell? ⟨x, 7, none⟩ = some v) (f3 : w.frozen? ⟨x, 7, none⟩ = false)
    (C : Hid (Calls Ybad.prog 18 #[.pointer (some ⟨sb, 0, none⟩), .pointer xr, .pointer (some ⟨w.heap.size, 0, none⟩)] (((w.setCell ⟨sb, 2, none⟩ (.pointer (some ⟨w.heap.size, 0, none⟩))).setCell ⟨x, 7, none⟩ (.pointer (some ⟨w.heap.size, 0, none⟩))).alloc (.cells (cells (lv0 p none (some x))) 56)) fun e w' => ∃ x, e = .returned (.pointer x) ∧ Z x w'))
    (F : Hid (∀ x w', Z x w' → (∃ v, w'.cell? ⟨sb, 1, none⟩ = some v) ∧ w'.frozen? ⟨sb, 1, none⟩ = false)) :
    Calls Ybad.prog 9 #[.pointer (some ⟨sb, 0, none⟩), .int .i64 p, .pointer none] w fun e w' => e = .returned (.pointer (some ⟨w.heap.size, 0, none⟩)) ∧ ∃ x w2, Z x w2 ∧ w' = w2.setCell ⟨sb, 1, none⟩ (.pointer x) := by
  have hne : ¬ sb = w.heap.size := by omega
  have hne' : ¬ w.heap.size = sb := by omega
  have hnx : ¬ x = w.heap.size := by omega
  have hnx' : ¬ w.heap.size = x := by omega
  have hxs' : ¬ x = sb := hxs
  have hxs'' : ¬ sb = x := fun e => hxs e.symm
  obtain ⟨d7, d⟩ := d
  go_enter Ybad.func9, Ybad.ntmps9
  go_wp2_with fail
  refine C.out.mono ?_
  rintro e w2 ⟨z, rfl, hz⟩
  obtain ⟨⟨v1, c⟩, f⟩ := F.out z w2 hz
  clear C F c1 c2 f2
  go_wp2
  go_ret
  exact ⟨rfl, z, w2, hz, rfl⟩

set_option maxHeartbeats 400000 in
theorem insert_yn (sb : Nat) (y : Nat) (p : Int) (xr : Option Addr) (w : World) (Z : Option Addr → World → Prop) (hsb : sb < w.heap.size)
    (c1 : w.cell? ⟨sb, 1, none⟩ = some (.pointer xr)) (hy : y < w.heap.size) (hys : y ≠ sb) (c2 : w.cell? ⟨y, 6, none⟩ = some (.pointer none)) (f2 : w.frozen? ⟨y, 6, none⟩ = false)
    (C : Hid (Calls Ybad.prog 18 #[.pointer (some ⟨sb, 0, none⟩), .pointer xr, .pointer (some ⟨w.heap.size, 0, none⟩)] ((w.setCell ⟨y, 6, none⟩ (.pointer (some ⟨w.heap.size, 0, none⟩))).alloc (.cells (cells (lv0 p (some y) none)) 56)) fun e w' => ∃ x, e = .returned (.pointer x) ∧ Z x w'))
    (F : Hid (∀ x w', Z x w' → (∃ v, w'.cell? ⟨sb, 1, none⟩ = some v) ∧ w'.frozen? ⟨sb, 1, none⟩ = false)) :
    Calls Ybad.prog 9 #[.pointer (some ⟨sb, 0, none⟩), .int .i64 p, .pointer (some ⟨y, 0, none⟩)] w fun e w' => e = .returned (.pointer (some ⟨w.heap.size, 0, none⟩)) ∧ ∃ x w2, Z x w2 ∧ w' = w2.setCell ⟨sb, 1, none⟩ (.pointer x) := by
  have hne : ¬ sb = w.heap.size := by omega
  have hne' : ¬ w.heap.size = sb := by omega
  have hny : ¬ y = w.heap.size := by omega
  have hny' : ¬ w.heap.size = y := by omega
  have hys' : ¬ y = sb := hys
  have hys'' : ¬ sb = y := fun e => hys e.symm
  go_enter Ybad.func9, Ybad.ntmps9
  go_wp2_with fail
  refine C.out.mono ?_
  rintro e w2 ⟨z, rfl, hz⟩
  obtain ⟨⟨v1, c⟩, f⟩ := F.out z w2 hz
  clear C F c1 c2 f2
  go_wp2
  go_ret
  exact ⟨rfl, z, w2, hz, rfl⟩

set_option maxHeartbeats 400000 in
theorem insert_yx (sb : Nat) (y : Nat) (x : Nat) (p : Int) (xr : Option Addr) (w : World) (Z : Option Addr → World → Prop) (hsb : sb < w.heap.size)
    (c1 : w.cell? ⟨sb, 1, none⟩ = some (.pointer xr)) (hy : y < w.heap.size) (hys : y ≠ sb) (c2 : w.cell? ⟨y, 6, none⟩ = some (.pointer (some ⟨x, 0, none⟩))) (f2 : w.frozen? ⟨y, 6, none⟩ = false) (hx : x < w.heap.size) (hxs : x ≠ sb) (d : ∃ v, w.cell? ⟨x, 7, none⟩ = some v) (f3 : w.frozen? ⟨x, 7, none⟩ = false) (hxy : x ≠ y)
    (C : Hid (Calls Ybad.prog 18 #[.pointer (some ⟨sb, 0, none⟩), .pointer xr, .pointer (some ⟨w.heap.size, 0, none⟩)] (((w.setCell ⟨y, 6, none⟩ (.pointer (some ⟨w.heap.size, 0, none⟩))).setCell ⟨x, 7, none⟩ (.pointer (some ⟨w.heap.size, 0, none⟩))).alloc (.cells (cells (lv0 p (some y) (some x))) 56)) fun e w' => ∃ x, e = .returned (.pointer x) ∧ Z x w'))
    (F : Hid (∀ x w', Z x w' → (∃ v, w'.cell? ⟨sb, 1, none⟩ = some v) ∧ w'.frozen? ⟨sb, 1, none⟩ = false)) :
    Calls Ybad.prog 9 #[.pointer (some ⟨sb, 0, none⟩), .int .i64 p, .pointer (some ⟨y, 0, none⟩)] w fun e w' => e = .returned (.pointer (some ⟨w.heap.size, 0, none⟩)) ∧ ∃ x w2, Z x w2 ∧ w' = w2.setCell ⟨sb, 1, none⟩ (.pointer x) := by
  have hne : ¬ sb = w.heap.size := by omega
  have hne' : ¬ w.heap.size = sb := by omega
  have hny : ¬ y = w.heap.size := by omega
  have hny' : ¬ w.heap.size = y := by omega
  have hys' : ¬ y = sb := hys
  have hys'' : ¬ sb = y := fun e => hys e.symm
  have hnx : ¬ x = w.heap.size := by omega
  have hnx' : ¬ w.heap.size = x := by omega
  have hxs' : ¬ x = sb := hxs
  have hxs'' : ¬ sb = x := fun e => hxs e.symm
  obtain ⟨d7, d⟩ := d
  have hxy' : ¬ x = y := hxy
  have hxy'' : ¬ y = x := fun e => hxy e.symm
  go_enter Ybad.func9, Ybad.ntmps9
  go_wp2_with fail
  refine C.out.mono ?_
  rintro e w2 ⟨z, rfl, hz⟩
  obtain ⟨⟨v1, c⟩, f⟩ := F.out z w2 hz
  clear C F c1 c2 f2
  go_wp2
  go_ret
  exact ⟨rfl, z, w2, hz, rfl⟩

end Go.Proofs.YbulkdilgDoor
