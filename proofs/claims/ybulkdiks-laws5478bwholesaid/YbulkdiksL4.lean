import Derived.Test.YbulkdiksCommon
namespace Go.Proofs.Ybulkdiks
open Go.RowKit
set_option linter.unusedVariables false
set_option linter.unusedSimpArgs false
set_option maxRecDepth 100000

set_option maxHeartbeats 4000000 in
theorem loop4 (a0 a1 a2 : Option Addr) (n l1 l2 c0 c1 c2 : Nat) (T : Nat → Bool) (hz pz : Nat → Nat) (w : World) (bM bS bA bP B0 : Nat) (h0 : n ≤ 4096) (h1 : l1 ≤ 4096) (h2 : l2 ≤ 4096) (K : Nat → Nat) (V4 : Nat → Value) (hs : List Nat) (hsb : ∀ i, i ∈ hs → i < n) (hsl2 : hs.length ≤ 4096) (ao : Option Addr) (cap bH : Nat) (hao : 0 < hs.length → ∃ g, ao = some ⟨g, 0, none⟩) (Q : Exit → Act → World → Prop) (w4 : World)
    (h4 : Sit w w4 w.heap.size bM bS bA bP B0 n n n (tk (tA T n) hs hs.length) K V4 (Lk (tA T n) (LA (PP l2 pz) (.pointer (some ⟨w.heap.size, 0, none⟩))) (.pointer (some ⟨bA, 0, none⟩)) hs hs.length) (pA (PP l2 pz) n) (.slice ao hs.length cap) (hs.map (fun i => .pointer (some ⟨K i, 0, none⟩))) [(bH, (hs.map (fun i => Value.pointer (some ⟨K i, 0, none⟩))).toArray)])
    (HQ : Hid (∀ (a : Act) (r : Nat), a = fD a0 a1 a2 n l1 l2 c0 c1 c2 w.heap.size bM bA bP (.slice (some ⟨bH, 0, none⟩) hs.length hs.length) (.int .i64 hs.length) (.int .i64 hs.length) (sl a) → Q (.exit 6) a (w4.drewN r)))
    (a : Act) (ha : a = fD a0 a1 a2 n l1 l2 c0 c1 c2 w.heap.size bM bA bP (.slice (some ⟨bH, 0, none⟩) hs.length hs.length) (.int .i64 hs.length) (.int .i64 (0 : Nat)) (sl a)) : Code.wp Yba.prog ((Yba.f3.body.bind (findLoop 34)).getD .skip) Q a w4 := by
  conv => arg 2; whnf
  have c34 := h4.acc.cell3
  refine wp_loop_hand (X := Nat) (fun q a wr => q ≤ hs.length ∧ (∃ r, wr = w4.drewN r) ∧ a = fD a0 a1 a2 n l1 l2 c0 c1 c2 w.heap.size bM bA bP (.slice (some ⟨bH, 0, none⟩) hs.length hs.length) (.int .i64 hs.length) (.int .i64 q) (sl a)) (fun q => hs.length - q) 0 ⟨Nat.zero_le _, ⟨0, rfl⟩, ha⟩ ?_
  clear ha a
  rintro q a wr ⟨hq, ⟨r, rfl⟩, ha⟩ Kc hK4
  obtain ⟨U, rfl⟩ : ∃ U, a = fD a0 a1 a2 n l1 l2 c0 c1 c2 w.heap.size bM bA bP (.slice (some ⟨bH, 0, none⟩) hs.length hs.length) (.int .i64 hs.length) (.int .i64 q) U := ⟨_, ha⟩
  clear ha
  unfold fD
  by_cases hql : q < hs.length
  · clear HQ
    obtain ⟨g, rfl⟩ := hao (by omega)
    have e1 := h4.heldCell (k := q) (by simpa using hql)
    have e2 := ext_cell h4 (x := (bH, (hs.map (fun i => Value.pointer (some ⟨K i, 0, none⟩))).toArray)) (by simp) (k := q) (v := .pointer (some ⟨K hs[q], 0, none⟩)) (by simp [hql])
    simp only [List.getElem_map] at e1
    have hnp := fun w => run_neq_ptr_same (P := Yba.prog) w (tp := 46) (te := 74) ⟨K hs[q], 0, none⟩ Yba.underlying46 info74
    have H4 := hid h4
    clear h4
    go_wp2_with fail
    go_quiet (fail)
    go_wp2
    exact hK4.out (q + 1) _ _ ⟨by omega, ⟨_, rfl⟩, rfl⟩ (by omega)
  · obtain rfl : q = hs.length := by omega
    clear hK4 h4 c34
    go_wp2_with fail
    exact HQ.out _ _ rfl
end Go.Proofs.Ybulkdiks
