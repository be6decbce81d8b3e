import Derived.Test.YbulkdilgDoorLow
import Derived.Deep.OwnRows
import Derived.OwnWalk
namespace Go.Proofs.YbulkdilgDoor
open Go.RowKit
set_option linter.unusedVariables false
set_option linter.unusedSimpArgs false
set_option linter.unnecessarySimpa false

theorem cells47 : Ybad.prog.cellsOf 47 = 14 := by kernel_rfl
theorem size47 : (Ybad.prog.info? 47).map (·.size) = some 14 := by kernel_rfl

set_option maxHeartbeats 1000000 in
theorem at_c (eb kb cb i : Nat) (w : World) (hi : i < 1024) (c0 : w.cell? ⟨eb, 0, none⟩ = some (.slice (some ⟨kb, 0, none⟩) 1 1)) (c1 : w.cell? ⟨kb, 0, none⟩ = some (.slice (some ⟨cb, 0, none⟩) 1024 1024)) :
    Calls Ybad.prog 4 #[.pointer (some ⟨eb, 0, none⟩), .int .u32 ((i : Int) + 1)] w fun e w' => e = .returned (.pointer (some ⟨cb, i * 14, none⟩)) ∧ w' = w := by
  have hq : (i : Int).tdiv 1024 = 0 := by rw [Int.tdiv_eq_ediv_of_nonneg (by omega)]; omega
  have hr : (i : Int).tmod 1024 = i := by rw [Int.tmod_eq_emod_of_nonneg (by omega)]; omega
  go_enter Ybad.func4, Ybad.ntmps4
  go_wp2
  go_ret
  exact ⟨rfl, rfl⟩
end Go.Proofs.YbulkdilgDoor
