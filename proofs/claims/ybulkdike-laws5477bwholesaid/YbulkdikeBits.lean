import Derived.Laws.BitsAllLaws
import Derived.Laws.BitsLemmas
namespace Go.Proofs.Ybulkdike.walks

theorem or_one_even (i : Nat) (h : i % 2 = 0) : i ||| 1 = i + 1 := by
  rw [nat_join1 i 1 h (by omega)]

theorem ofInt32_nat (s : Int) : (BitVec.ofInt 32 s).toNat = (s % 4294967296).toNat := by
  rw [BitVec.toNat_ofInt]
  rfl

theorem and1 (s : Int) : bits .and .i32 s 1 = s % 2 := by
  show IntKind.i32.wrap ((BitVec.ofInt 32 s &&& BitVec.ofInt 32 1).toNat : Int) = _
  rw [BitVec.toNat_and, ofInt32_nat, ofInt32_nat, show ((1 : Int) % 4294967296).toNat = 1 from rfl, Nat.and_one_is_mod, IntKind.wrap_i32]
  omega

theorem or1 (s : Int) (h0 : -2147483648 ≤ s) (h1 : s ≤ 2147483647) (he : s % 2 = 0) : bits .or .i32 s 1 = s + 1 := by
  show IntKind.i32.wrap ((BitVec.ofInt 32 s ||| BitVec.ofInt 32 1).toNat : Int) = _
  rw [BitVec.toNat_or, ofInt32_nat, ofInt32_nat, show ((1 : Int) % 4294967296).toNat = 1 from rfl, or_one_even _ (by omega), IntKind.wrap_i32]
  omega
end Go.Proofs.Ybulkdike.walks
