import Derived.Test.YbulkdilgDoorIns
namespace Go.Proofs.YbulkdilgDoor
open Go.RowKit
set_option maxRecDepth 100000
set_option linter.unusedVariables false
set_option linter.unusedSimpArgs false
set_option linter.unnecessarySimpa false

set_option maxHeartbeats 1000000 in
theorem drop_nn (sb l : Nat) (xr : Option Addr) (w : World) (Z : Option Addr → World → Prop) (hls : l ≠ sb)
    (c1 : w.cell? ⟨sb, 1, none⟩ = some (.pointer xr)) (c7 : w.cell? ⟨l, 7, none⟩ = some (.pointer none)) (c6 : w.cell? ⟨l, 6, none⟩ = some (.pointer none)) (d2 : ∃ v, w.cell? ⟨sb, 2, none⟩ = some v) (f2 : w.frozen? ⟨sb, 2, none⟩ = false)
    (C : Hid (∀ n, Calls Ybad.prog 22 #[.pointer (some ⟨sb, 0, none⟩), .pointer xr, .pointer (some ⟨l, 0, none⟩)] ((w.setCell ⟨sb, 2, none⟩ (.pointer none)).drewN n) fun e w' => ∃ x, e = .returned (.pointer x) ∧ Z x w'))
    (F : Hid (∀ x w', Z x w' → (∃ v, w'.cell? ⟨sb, 1, none⟩ = some v) ∧ w'.frozen? ⟨sb, 1, none⟩ = false)) :
    Calls Ybad.prog 13 #[.pointer (some ⟨sb, 0, none⟩), .pointer (some ⟨l, 0, none⟩)] w fun e w' => e = .returned (.tuple #[]) ∧ ∃ x w2, Z x w2 ∧ w' = w2.setCell ⟨sb, 1, none⟩ (.pointer x) := by
  have hne : ¬ sb = l := fun e => hls e.symm
  have hne' : ¬ l = sb := hls
  obtain ⟨v2, d2⟩ := d2
  go_enter Ybad.func13, Ybad.ntmps13
  go_wp2_with fail
  refine (C.out 0).mono ?_
  rintro e w2 ⟨z, rfl, hz⟩
  obtain ⟨⟨v1, c⟩, f⟩ := F.out z w2 hz
  clear C F c1 c6 c7 d2 f2
  go_wp2
  go_end0
  exact ⟨rfl, z, w2, hz, rfl⟩

set_option maxHeartbeats 1000000 in
theorem drop_nx (sb l : Nat) (x : Nat) (xr : Option Addr) (w : World) (Z : Option Addr → World → Prop) (hls : l ≠ sb)
    (c1 : w.cell? ⟨sb, 1, none⟩ = some (.pointer xr)) (c7 : w.cell? ⟨l, 7, none⟩ = some (.pointer none)) (c6 : w.cell? ⟨l, 6, none⟩ = some (.pointer (some ⟨x, 0, none⟩))) (d2 : ∃ v, w.cell? ⟨sb, 2, none⟩ = some v) (f2 : w.frozen? ⟨sb, 2, none⟩ = false) (hxl : x ≠ l) (hxs : x ≠ sb) (d : ∃ v, w.cell? ⟨x, 7, none⟩ = some v) (f3 : w.frozen? ⟨x, 7, none⟩ = false)
    (C : Hid (∀ n, Calls Ybad.prog 22 #[.pointer (some ⟨sb, 0, none⟩), .pointer xr, .pointer (some ⟨l, 0, none⟩)] (((w.setCell ⟨sb, 2, none⟩ (.pointer (some ⟨x, 0, none⟩))).setCell ⟨x, 7, none⟩ (.pointer none)).drewN n) fun e w' => ∃ x, e = .returned (.pointer x) ∧ Z x w'))
    (F : Hid (∀ x w', Z x w' → (∃ v, w'.cell? ⟨sb, 1, none⟩ = some v) ∧ w'.frozen? ⟨sb, 1, none⟩ = false)) :
    Calls Ybad.prog 13 #[.pointer (some ⟨sb, 0, none⟩), .pointer (some ⟨l, 0, none⟩)] w fun e w' => e = .returned (.tuple #[]) ∧ ∃ x w2, Z x w2 ∧ w' = w2.setCell ⟨sb, 1, none⟩ (.pointer x) := by
  have hne : ¬ sb = l := fun e => hls e.symm
  have hne' : ¬ l = sb := hls
  obtain ⟨v2, d2⟩ := d2
  have hnx : ¬ x = l := hxl
  have hnx' : ¬ l = x := fun e => hxl e.symm
  have hxs' : ¬ x = sb := hxs
  have hxs'' : ¬ sb = x := fun e => hxs e.symm
  obtain ⟨d7, d⟩ := d
  go_enter Ybad.func13, Ybad.ntmps13
  go_wp2_with fail
  go_region
  go_wp2_with fail
  refine (C.out 1).mono ?_
  rintro e w2 ⟨z, rfl, hz⟩
  obtain ⟨⟨v1, c⟩, f⟩ := F.out z w2 hz
  clear C F c1 c6 c7 d2 f2
  go_wp2
  go_end0
  exact ⟨rfl, z, w2, hz, rfl⟩

set_option maxHeartbeats 1000000 in
theorem drop_yn (sb l : Nat) (y : Nat) (xr : Option Addr) (w : World) (Z : Option Addr → World → Prop) (hls : l ≠ sb)
    (c1 : w.cell? ⟨sb, 1, none⟩ = some (.pointer xr)) (c7 : w.cell? ⟨l, 7, none⟩ = some (.pointer (some ⟨y, 0, none⟩))) (c6 : w.cell? ⟨l, 6, none⟩ = some (.pointer none)) (hyl : y ≠ l) (hys : y ≠ sb) (d2 : ∃ v, w.cell? ⟨y, 6, none⟩ = some v) (f2 : w.frozen? ⟨y, 6, none⟩ = false)
    (C : Hid (∀ n, Calls Ybad.prog 22 #[.pointer (some ⟨sb, 0, none⟩), .pointer xr, .pointer (some ⟨l, 0, none⟩)] ((w.setCell ⟨y, 6, none⟩ (.pointer none)).drewN n) fun e w' => ∃ x, e = .returned (.pointer x) ∧ Z x w'))
    (F : Hid (∀ x w', Z x w' → (∃ v, w'.cell? ⟨sb, 1, none⟩ = some v) ∧ w'.frozen? ⟨sb, 1, none⟩ = false)) :
    Calls Ybad.prog 13 #[.pointer (some ⟨sb, 0, none⟩), .pointer (some ⟨l, 0, none⟩)] w fun e w' => e = .returned (.tuple #[]) ∧ ∃ x w2, Z x w2 ∧ w' = w2.setCell ⟨sb, 1, none⟩ (.pointer x) := by
  have hne : ¬ sb = l := fun e => hls e.symm
  have hne' : ¬ l = sb := hls
  obtain ⟨v2, d2⟩ := d2
  have hny : ¬ y = l := hyl
  have hny' : ¬ l = y := fun e => hyl e.symm
  have hys' : ¬ y = sb := hys
  have hys'' : ¬ sb = y := fun e => hys e.symm
  go_enter Ybad.func13, Ybad.ntmps13
  go_wp2_with fail
  go_region
  go_wp2_with fail
  refine (C.out 1).mono ?_
  rintro e w2 ⟨z, rfl, hz⟩
  obtain ⟨⟨v1, c⟩, f⟩ := F.out z w2 hz
  clear C F c1 c6 c7 d2 f2
  go_wp2
  go_end0
  exact ⟨rfl, z, w2, hz, rfl⟩

set_option maxHeartbeats 1000000 in
theorem drop_yx (sb l : Nat) (y : Nat) (x : Nat) (xr : Option Addr) (w : World) (Z : Option Addr → World → Prop) (hls : l ≠ sb)
    (c1 : w.cell? ⟨sb, 1, none⟩ = some (.pointer xr)) (c7 : w.cell? ⟨l, 7, none⟩ = some (.pointer (some ⟨y, 0, none⟩))) (c6 : w.cell? ⟨l, 6, none⟩ = some (.pointer (some ⟨x, 0, none⟩))) (hyl : y ≠ l) (hys : y ≠ sb) (d2 : ∃ v, w.cell? ⟨y, 6, none⟩ = some v) (f2 : w.frozen? ⟨y, 6, none⟩ = false) (hxl : x ≠ l) (hxs : x ≠ sb) (d : ∃ v, w.cell? ⟨x, 7, none⟩ = some v) (f3 : w.frozen? ⟨x, 7, none⟩ = false) (hxy : x ≠ y)
    (C : Hid (∀ n, Calls Ybad.prog 22 #[.pointer (some ⟨sb, 0, none⟩), .pointer xr, .pointer (some ⟨l, 0, none⟩)] (((w.setCell ⟨y, 6, none⟩ (.pointer (some ⟨x, 0, none⟩))).setCell ⟨x, 7, none⟩ (.pointer (some ⟨y, 0, none⟩))).drewN n) fun e w' => ∃ x, e = .returned (.pointer x) ∧ Z x w'))
    (F : Hid (∀ x w', Z x w' → (∃ v, w'.cell? ⟨sb, 1, none⟩ = some v) ∧ w'.frozen? ⟨sb, 1, none⟩ = false)) :
    Calls Ybad.prog 13 #[.pointer (some ⟨sb, 0, none⟩), .pointer (some ⟨l, 0, none⟩)] w fun e w' => e = .returned (.tuple #[]) ∧ ∃ x w2, Z x w2 ∧ w' = w2.setCell ⟨sb, 1, none⟩ (.pointer x) := by
  have hne : ¬ sb = l := fun e => hls e.symm
  have hne' : ¬ l = sb := hls
  obtain ⟨v2, d2⟩ := d2
  have hny : ¬ y = l := hyl
  have hny' : ¬ l = y := fun e => hyl e.symm
  have hys' : ¬ y = sb := hys
  have hys'' : ¬ sb = y := fun e => hys e.symm
  have hnx : ¬ x = l := hxl
  have hnx' : ¬ l = x := fun e => hxl e.symm
  have hxs' : ¬ x = sb := hxs
  have hxs'' : ¬ sb = x := fun e => hxs e.symm
  obtain ⟨d7, d⟩ := d
  have hxy' : ¬ x = y := hxy
  have hxy'' : ¬ y = x := fun e => hxy e.symm
  go_enter Ybad.func13, Ybad.ntmps13
  go_wp2_with fail
  go_region
  go_wp2_with fail
  go_region
  go_wp2_with fail
  refine (C.out 2).mono ?_
  rintro e w2 ⟨z, rfl, hz⟩
  obtain ⟨⟨v1, c⟩, f⟩ := F.out z w2 hz
  clear C F c1 c6 c7 d2 f2
  go_wp2
  go_end0
  exact ⟨rfl, z, w2, hz, rfl⟩

end Go.Proofs.YbulkdilgDoor
