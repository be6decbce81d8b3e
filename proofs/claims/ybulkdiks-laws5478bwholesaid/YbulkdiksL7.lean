import Derived.Test.YbulkdiksCommon
namespace Go.Proofs.Ybulkdiks
open Go.RowKit
set_option linter.unusedVariables false
set_option linter.unusedSimpArgs false
set_option maxRecDepth 100000

set_option maxHeartbeats 4000000 in
theorem loop7 (a0 a1 a2 : Option Addr) (n l1 l2 c0 c1 c2 : Nat) (w : World) (bM bA bP bH : Nat) (hs : List Nat) (k m wn capV : Nat) (aV : Option Addr) (hPk : m ≤ 3) (hm1 : m ≤ wn) (hm2 : wn ≤ m + 1) (Q : Exit → Act → World → Prop) (w6 : World) (r : Nat)
    (HVC : Hid (0 < wn → ∃ g, aV = some ⟨g, 0, none⟩ ∧ (∀ i, i < m → w6.cell? ⟨g, i, none⟩ = some (.pointer (some ⟨w.heap.size, 0, none⟩))) ∧ (m < wn → w6.cell? ⟨g, m, none⟩ = some (.pointer (some ⟨bA, 0, none⟩)))))
    (HQ : Hid (∀ (a : Act), a = fG a0 a1 a2 n l1 l2 c0 c1 c2 w.heap.size bM bA bP (.slice (some ⟨bH, 0, none⟩) hs.length hs.length) (.int .i64 k) (.int .i64 m) (.int .i64 wn) (.slice aV wn capV) (.int .i64 m) (sl a) → Q (.exit 12) a (w6.drewN r)))
    (a : Act) (ha : a = fG a0 a1 a2 n l1 l2 c0 c1 c2 w.heap.size bM bA bP (.slice (some ⟨bH, 0, none⟩) hs.length hs.length) (.int .i64 k) (.int .i64 m) (.int .i64 wn) (.slice aV wn capV) (.int .i64 (0 : Nat)) (sl a)) : Code.wp Yba.prog ((Yba.f3.body.bind (findLoop 64)).getD .skip) Q a (w6.drewN r) := by
  conv => arg 2; whnf
  refine wp_loop_hand (X := Nat) (fun q a wr => q ≤ m ∧ wr = w6.drewN r ∧ a = fG a0 a1 a2 n l1 l2 c0 c1 c2 w.heap.size bM bA bP (.slice (some ⟨bH, 0, none⟩) hs.length hs.length) (.int .i64 k) (.int .i64 m) (.int .i64 wn) (.slice aV wn capV) (.int .i64 q) (sl a)) (fun q => m - q) 0 ⟨Nat.zero_le _, rfl, ha⟩ ?_
  clear ha a
  rintro q a wr ⟨hq, hwr, ha⟩ Kc hK7
  subst hwr
  obtain ⟨U, rfl⟩ : ∃ U, a = fG a0 a1 a2 n l1 l2 c0 c1 c2 w.heap.size bM bA bP (.slice (some ⟨bH, 0, none⟩) hs.length hs.length) (.int .i64 k) (.int .i64 m) (.int .i64 wn) (.slice aV wn capV) (.int .i64 q) U := ⟨_, ha⟩
  clear ha
  unfold fG
  have hnp := fun a w => run_neq_ptr_same (P := Yba.prog) w (tp := 24) (te := 30) a Yba.underlying24 info30
  by_cases hqm : q < m
  · obtain ⟨g, rfl, hO, _⟩ := HVC.out (by omega)
    have cO := hO q hqm
    clear hO HVC HQ
    go_wp2
    exact hK7.out (q + 1) _ _ ⟨by omega, rfl, rfl⟩ (by omega)
  · obtain rfl : q = m := by omega
    clear hK7 HVC
    go_wp2_with fail
    exact HQ.out _ rfl
end Go.Proofs.Ybulkdiks
