import Derived.Test.YbulkdiksCommon
namespace Go.Proofs.Ybulkdiks
open Go.RowKit
set_option linter.unusedVariables false
set_option linter.unusedSimpArgs false
set_option maxRecDepth 100000

set_option maxHeartbeats 4000000 in
theorem loop6 (a0 a1 a2 : Option Addr) (n l1 l2 c0 c1 c2 : Nat) (T : Nat → Bool) (hz pz : Nat → Nat) (w : World) (bM bS bA bP B0 : Nat) (h0 : n ≤ 4096) (h1 : l1 ≤ 4096) (h2 : l2 ≤ 4096) (K : Nat → Nat) (V4 : Nat → Value) (hs : List Nat) (hsb : ∀ i, i ∈ hs → i < n) (hsl2 : hs.length ≤ 4096) (ao : Option Addr) (cap bH : Nat) (hao : 0 < hs.length → ∃ g, ao = some ⟨g, 0, none⟩) (k : Nat) (hkn : k < n) (Q : Exit → Act → World → Prop) (w5 : World)
    (H5 : Hid (Sit w w5 w.heap.size bM bS bA bP B0 n n n (tk (tA T n) hs hs.length) K V4 (Lk (tA T n) (LA (PP l2 pz) (.pointer (some ⟨w.heap.size, 0, none⟩))) (.pointer (some ⟨bA, 0, none⟩)) hs hs.length) (pA (PP l2 pz) n) (.slice ao hs.length cap) (hs.map (fun i => .pointer (some ⟨K i, 0, none⟩))) [(bH, (hs.map (fun i => Value.pointer (some ⟨K i, 0, none⟩))).toArray)]))
    (HQ : Hid (∀ (a : Act), a = fE a0 a1 a2 n l1 l2 c0 c1 c2 w.heap.size bM bA bP (.slice (some ⟨bH, 0, none⟩) hs.length hs.length) (.int .i64 k) (sl a) ∧ sl a 21 = .bool (has hs k) → Q (.exit 10) a w5))
    (a : Act) (ha : a = fF a0 a1 a2 n l1 l2 c0 c1 c2 w.heap.size bM bA bP (.slice (some ⟨bH, 0, none⟩) hs.length hs.length) (.int .i64 k) (.bool false) (.slice (some ⟨bH, 0, none⟩) hs.length hs.length) (.int .i64 hs.length) (.int .i64 (0 : Nat)) (sl a)) : Code.wp Yba.prog ((Yba.f3.body.bind (findLoop 46)).getD .skip) Q a w5 := by
  conv => arg 2; whnf
  refine wp_loop_hand (X := Nat) (fun q a wr => q ≤ hs.length ∧ wr = w5 ∧ has (hs.take q) k = false ∧ a = fF a0 a1 a2 n l1 l2 c0 c1 c2 w.heap.size bM bA bP (.slice (some ⟨bH, 0, none⟩) hs.length hs.length) (.int .i64 k) (.bool false) (.slice (some ⟨bH, 0, none⟩) hs.length hs.length) (.int .i64 hs.length) (.int .i64 q) (sl a)) (fun q => hs.length - q) 0 ⟨Nat.zero_le _, rfl, by simp [has], ha⟩ ?_
  clear ha a
  rintro q a wr ⟨hq, hwr, hh, ha⟩ Kc hK6
  subst hwr
  obtain ⟨U, rfl⟩ : ∃ U, a = fF a0 a1 a2 n l1 l2 c0 c1 c2 w.heap.size bM bA bP (.slice (some ⟨bH, 0, none⟩) hs.length hs.length) (.int .i64 k) (.bool false) (.slice (some ⟨bH, 0, none⟩) hs.length hs.length) (.int .i64 hs.length) (.int .i64 q) U := ⟨_, ha⟩
  clear ha
  unfold fF
  have HH := hid hh
  clear hh
  by_cases hql : q < hs.length
  · have e2 := ext_cell H5.out (x := (bH, (hs.map (fun i => Value.pointer (some ⟨K i, 0, none⟩))).toArray)) (by simp) (k := q) (v := .pointer (some ⟨K hs[q], 0, none⟩)) (by simp [hql])
    have cM := H5.out.ms.cell hkn
    rw [if_pos hkn] at cM
    have hqn : hs[q] < n := hsb _ (List.getElem_mem hql)
    have heq := run_eql_ptr (P := Yba.prog) _ (tp := 46) (te := 74) (a := ⟨K hs[q], 0, none⟩) (b := ⟨K k, 0, none⟩) (ta := 74) (tb := 74) Yba.underlying46 info74' (H5.out.mkt _ hqn).2.plain (H5.out.mkt _ hkn).2.plain
    by_cases hqk : hs[q] = k
    · rw [hqk] at heq e2
      simp only [decide_true] at heq
      have hres : has hs k = true := by simp only [has, decide_eq_true_eq]; rw [← hqk]; exact List.getElem_mem hql
      have HQK := hid hqk
      have HRES := hid hres
      clear hqk hres
      go_wp2_with fail
      exact HQ.out _ ⟨rfl, by rw [HRES.out]; rfl⟩
    · have hne : decide ((⟨K hs[q], 0, none⟩ : Addr) = ⟨K k, 0, none⟩) = false := by
        simp only [decide_eq_false_iff_not, Addr.mk.injEq]
        intro e
        exact hqk (H5.out.kinj _ _ hqn hkn e.1)
      rw [hne] at heq
      have hnx : has (hs.take (q + 1)) k = false := by
        rw [take_has hs q k hql, HH.out]
        simp only [Bool.false_or, decide_eq_false_iff_not]
        exact fun e => hqk e.symm
      have HN := hid hnx
      clear hnx hne hqk
      go_wp2
      exact hK6.out (q + 1) _ _ ⟨by omega, rfl, HN.out, rfl⟩ (by omega)
  · have hres : has hs k = false := by
      have := HH.out
      rwa [List.take_of_length_le (by omega)] at this
    have HRES := hid hres
    clear hres
    go_wp2_with fail
    exact HQ.out _ ⟨rfl, by rw [HRES.out]; rfl⟩
end Go.Proofs.Ybulkdiks
