import Derived.Test.YbulkdiksCommon
namespace Go.Proofs.Ybulkdiks
open Go.RowKit
set_option linter.unusedVariables false
set_option linter.unusedSimpArgs false
set_option maxRecDepth 100000

set_option maxHeartbeats 4000000 in
theorem loop2 (a0 a1 a2 : Option Addr) (n l1 l2 c0 c1 c2 : Nat) (T : Nat → Bool) (hz pz : Nat → Nat) (w : World) (bM bS bA bP B0 : Nat) (h0 : n ≤ 4096) (h1 : l1 ≤ 4096) (h2 : l2 ≤ 4096) (k : Nat) (hlt : k < n) (K1 : Nat → Nat) (V1 : Nat → Value) (mb : Nat) (hK : Hid (K1 k = mb)) (hPk : PP l2 pz k ≤ 3) (Q : Exit → Act → World → Prop) (w2 : World)
    (hm : Sit w w2 w.heap.size bM bS bA bP B0 n k (k + 1) (tA T (k + 1)) K1 V1 (upd (LA (PP l2 pz) (.pointer (some ⟨w.heap.size, 0, none⟩))) k (List.replicate 0 (.pointer (some ⟨w.heap.size, 0, none⟩)))) (pA (PP l2 pz) (k + 1)) (.slice none 0 0) [] [])
    (HQ : Hid (∀ (a : Act) (wr : World) (V2 : Nat → Value), Sit w wr w.heap.size bM bS bA bP B0 n k (k + 1) (tA T (k + 1)) K1 V2 (upd (LA (PP l2 pz) (.pointer (some ⟨w.heap.size, 0, none⟩))) k (List.replicate (PP l2 pz k) (.pointer (some ⟨w.heap.size, 0, none⟩)))) (pA (PP l2 pz) (k + 1)) (.slice none 0 0) [] [] → a = fB a0 a1 a2 n l1 l2 c0 c1 c2 w.heap.size bM bA bP (.int .i64 k) (.pointer (some ⟨mb, 0, none⟩)) (.int .i64 (PP l2 pz k)) (.int .i64 (PP l2 pz k)) (sl a) → Q (.exit 2) a wr))
    (a : Act) (ha : a = fB a0 a1 a2 n l1 l2 c0 c1 c2 w.heap.size bM bA bP (.int .i64 k) (.pointer (some ⟨mb, 0, none⟩)) (.int .i64 (PP l2 pz k)) (.int .i64 (0 : Nat)) (sl a)) : Code.wp Yba.prog ((Yba.f3.body.bind (findLoop 18)).getD .skip) Q a w2 := by
  conv => arg 2; whnf
  refine wp_loop_hand (X := Nat) (fun q a wr => ∃ V2 : Nat → Value, q ≤ PP l2 pz k ∧ Sit w wr w.heap.size bM bS bA bP B0 n k (k + 1) (tA T (k + 1)) K1 V2 (upd (LA (PP l2 pz) (.pointer (some ⟨w.heap.size, 0, none⟩))) k (List.replicate q (.pointer (some ⟨w.heap.size, 0, none⟩)))) (pA (PP l2 pz) (k + 1)) (.slice none 0 0) [] [] ∧ a = fB a0 a1 a2 n l1 l2 c0 c1 c2 w.heap.size bM bA bP (.int .i64 k) (.pointer (some ⟨mb, 0, none⟩)) (.int .i64 (PP l2 pz k)) (.int .i64 q) (sl a)) (fun q => PP l2 pz k - q) 0 ⟨V1, Nat.zero_le _, hm, ha⟩ ?_
  clear hm ha a w2
  rintro q a wr ⟨V2, hq, hm, ha⟩ Kc hK2
  obtain ⟨U, rfl⟩ : ∃ U, a = fB a0 a1 a2 n l1 l2 c0 c1 c2 w.heap.size bM bA bP (.int .i64 k) (.pointer (some ⟨mb, 0, none⟩)) (.int .i64 (PP l2 pz k)) (.int .i64 q) U := ⟨_, ha⟩
  clear ha
  unfold fB
  have hkk : k < k + 1 := by omega
  have M := (hm.mkt k hkk).2
  rw [hK.out] at M
  by_cases hql : q < PP l2 pz k
  · have c41 := M.cell41
    obtain ⟨i0, hi0, hz0, hz1, hz2⟩ := info_parts info24
    have hB := hm.o6
    have O := hm.own k hkk
    rw [upd_same, List.length_replicate] at O
    go_wp2_with (at_builtin; refine wpList_append_lies _ rfl (.tmp 97) (.tmp 99) 66 rfl B0 24 i0 (.pointer none) 1 8 Yba.underlying66 hi0 hz0 hz1 hz2 rfl (by decide) (V2 k) q (List.replicate q (.pointer (some ⟨w.heap.size, 0, none⟩))) rfl (O.alloc _) ⟨wr.heap.size, 0, none⟩ 1 1 [.pointer (some ⟨w.heap.size, 0, none⟩)] rfl rfl (cell_one_new _ _ _) (by simp [Value.oneCell']) (by decide) (by unfold maxLen; omega) (by omega) (by simp; omega) (wr.heap.size + 1) (by simp) ?_)
    intro g cap w3 hown hgrow hat hlg
    clear hi0 hz0 hz1 hz2 c41 O
    have fin := hm.app hkk (.pointer (some ⟨w.heap.size, 0, none⟩)) _ (g := g) (cap := cap) (w2 := w3) (by rw [upd_same, List.length_replicate]; exact hown) hgrow hat
    rw [hK.out, upd_same, List.length_replicate, upd_upd, ← List.replicate_succ'] at fin
    have m3 : Mkt w3 mb k (V2 k) := M.of ((hgrow.block _ (by have := M.lt; simp; omega) (fun e => (hm.kinds hkk _ e.symm).2.2.2 k hkk hK.out)).trans (Below.heap_alloc _ _ _ M.lt))
    have c41 := m3.cell41
    have f41 := m3.free 41
    clear hown hgrow hat hm m3 M hB hlg
    go_wp2
    exact hK2.out (q + 1) _ _ ⟨_, by omega, fin, rfl⟩ (by omega)
  · obtain rfl : q = PP l2 pz k := by omega
    clear hK2 M
    go_wp2_with fail
    exact HQ.out _ _ V2 hm rfl
end Go.Proofs.Ybulkdiks
