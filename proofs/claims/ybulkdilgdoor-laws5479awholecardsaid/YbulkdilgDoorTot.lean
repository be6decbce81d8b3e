import Derived.Test.YbulkdilgDoorRows
import Derived.WalkKit
import Derived.WalkSpells
import Derived.WalkSmall
import Derived.ProofKit
import Derived.Shelf.Spec.BitsCarry
namespace Go.Proofs.YbulkdilgDoor
open Go.RowKit
set_option linter.unusedVariables false
set_option linter.unusedSimpArgs false
set_option linter.unnecessarySimpa false

theorem add64 (x y c : Int) (hx : 0 ≤ x) (hy : 0 ≤ y) (hc0 : 0 ≤ c) (hc : c ≤ 1) (hs : x + y + c < 18446744073709551616) (w : World) : (callFunc 19 #[.int .u64 x, .int .u64 y, .int .u64 c]).run Ybad.prog w =
    .ok (.value (.tuple #[.int .u64 (x + y + c), .int .u64 0])) w := by
  rw [run_callFunc_extern Ybad.func19 (by kernel_rfl) (by kernel_rfl) (by kernel_rfl) (e := add64Entry) (by kernel_rfl), run_add64 x y c hx hy hc0 hc, Int.emod_eq_of_lt (by omega) hs, Int.ediv_eq_zero_of_lt (by omega) hs]
  rfl
theorem sub64 (x y b : Int) (hx : 0 ≤ x) (hy : 0 ≤ y) (hxm : x < 18446744073709551616) (hb0 : 0 ≤ b) (hb : b ≤ 1) (hs : y + b ≤ x) (w : World) : (callFunc 21 #[.int .u64 x, .int .u64 y, .int .u64 b]).run Ybad.prog w =
    .ok (.value (.tuple #[.int .u64 (x - y - b), .int .u64 0])) w := by
  obtain ⟨x, rfl⟩ := Int.eq_ofNat_of_zero_le hx
  obtain ⟨y, rfl⟩ := Int.eq_ofNat_of_zero_le hy
  obtain ⟨b, rfl⟩ := Int.eq_ofNat_of_zero_le hb0
  rw [run_callFunc_extern Ybad.func21 (by kernel_rfl) (by kernel_rfl) (by kernel_rfl) (e := sub64Entry) (by kernel_rfl), run_sub64 x y b (by omega)]
  simp only [Result.andThen]
  rw [if_neg (by omega), show (((x + 18446744073709551616 - y - b) % 18446744073709551616 : Nat) : Int) = (x : Int) - y - b by omega]
  rfl

set_option maxHeartbeats 1000000 in
theorem totalOf_c (a : Int) (ha : 0 ≤ a) (h63 : a < 9223372036854775808) (w : World) : Calls Ybad.prog 11 #[.int .i64 a] w fun e w' =>
    e = .returned (.agg #[.int .u64 0, .int .u64 a]) ∧ ∃ c, w' = w.alloc (.cells c 53) := by
  go_enter Ybad.func11, Ybad.ntmps11
  go_wp2
  simp [bodyPost, results, Ybad.results11, go_sem]
  exact ⟨_, rfl⟩

set_option maxHeartbeats 1000000 in
theorem plus_c (l q : Int) (hl : 0 ≤ l) (hq : 0 ≤ q) (hs : l + q < 18446744073709551616) (w : World) : Calls Ybad.prog 10 #[.agg #[.int .u64 0, .int .u64 l], .agg #[.int .u64 0, .int .u64 q]] w fun e w' =>
    e = .returned (.agg #[.int .u64 0, .int .u64 (l + q)]) ∧ ∃ c1 c2 c3, w' = ((w.alloc (.cells c1 53)).alloc (.cells c2 53)).alloc (.cells c3 53) := by
  have k1 : ∀ w, (callFunc 19 #[.int .u64 l, .int .u64 q, .int .u64 0]).run Ybad.prog w = .ok (.value (.tuple #[.int .u64 (l + q), .int .u64 0])) w := fun w => by simpa using add64 l q 0 hl hq (by omega) (by omega) (by omega) w
  have k2 : ∀ w, (callFunc 19 #[.int .u64 0, .int .u64 0, .int .u64 0]).run Ybad.prog w = .ok (.value (.tuple #[.int .u64 0, .int .u64 0])) w := fun w => by simpa using add64 0 0 0 (by omega) (by omega) (by omega) (by omega) (by omega) w
  go_enter Ybad.func10, Ybad.ntmps10
  go_wp2_with (first | simp only [k1] | simp only [k2])
  simp [bodyPost, results, Ybad.results10, go_sem]
  exact ⟨_, _, _, rfl⟩

set_option maxHeartbeats 1000000 in
theorem minus_c (l q : Int) (hq : 0 ≤ q) (hs : q ≤ l) (hl : l < 18446744073709551616) (w : World) : Calls Ybad.prog 12 #[.agg #[.int .u64 0, .int .u64 l], .agg #[.int .u64 0, .int .u64 q]] w fun e w' =>
    e = .returned (.agg #[.int .u64 0, .int .u64 (l - q)]) ∧ ∃ c1 c2 c3, w' = ((w.alloc (.cells c1 53)).alloc (.cells c2 53)).alloc (.cells c3 53) := by
  have k1 : ∀ w, (callFunc 21 #[.int .u64 l, .int .u64 q, .int .u64 0]).run Ybad.prog w = .ok (.value (.tuple #[.int .u64 (l - q), .int .u64 0])) w := fun w => by simpa using sub64 l q 0 (by omega) hq hl (by omega) (by omega) (by omega) w
  have k2 : ∀ w, (callFunc 21 #[.int .u64 0, .int .u64 0, .int .u64 0]).run Ybad.prog w = .ok (.value (.tuple #[.int .u64 0, .int .u64 0])) w := fun w => by simpa using sub64 0 0 0 (by omega) (by omega) (by omega) (by omega) (by omega) (by omega) w
  go_enter Ybad.func12, Ybad.ntmps12
  go_wp2_with (first | simp only [k1] | simp only [k2])
  simp [bodyPost, results, Ybad.results12, go_sem]
  exact ⟨_, _, _, rfl⟩
end Go.Proofs.YbulkdilgDoor
