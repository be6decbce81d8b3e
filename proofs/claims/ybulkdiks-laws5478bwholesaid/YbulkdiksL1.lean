import Derived.Test.YbulkdiksCommon
import Derived.Test.YbulkdiksL2
namespace Go.Proofs.Ybulkdiks
open Go.RowKit
set_option linter.unusedVariables false
set_option linter.unusedSimpArgs false
set_option maxRecDepth 100000

set_option maxHeartbeats 4000000 in
theorem loop1 (a0 a1 a2 : Option Addr) (n l1 l2 c0 c1 c2 : Nat) (T : Nat → Bool) (hz pz : Nat → Nat) (w : World) (bM bS bA bP B0 : Nat) (h0 : n ≤ 4096) (h1 : l1 ≤ 4096) (h2 : l2 ≤ 4096) (K0 : Nat → Nat) (V0 : Nat → Value) (R : Ending → World → Prop) (Q : Exit → Act → World → Prop) (w2 : World)
    (hT : Hid (Src w a0 n (fun i => .bool (T i)))) (hP : Hid (Src w a2 l2 (fun i => .int .u8 (pz i)))) (pzb : Hid (∀ i, pz i < 256))
    (S0 : Sit w w2 w.heap.size bM bS bA bP B0 n 0 0 (tA T 0) K0 V0 (LA (PP l2 pz) (.pointer (some ⟨w.heap.size, 0, none⟩))) (pA (PP l2 pz) 0) (.slice none 0 0) [] [])
    (HQ : Hid (∀ (a : Act) (wr : World) (K : Nat → Nat) (V : Nat → Value), Sit w wr w.heap.size bM bS bA bP B0 n n n (tA T n) K V (LA (PP l2 pz) (.pointer (some ⟨w.heap.size, 0, none⟩))) (pA (PP l2 pz) n) (.slice none 0 0) [] [] → a = fA a0 a1 a2 n l1 l2 c0 c1 c2 w.heap.size bM bA bP (.int .i64 n) (sl a) → Q (.exit 0) a wr))
    (a : Act) (ha : a = fA a0 a1 a2 n l1 l2 c0 c1 c2 w.heap.size bM bA bP (.int .i64 (0 : Nat)) (sl a)) : Code.wp Yba.prog ((Yba.f3.body.bind (findLoop 9)).getD .skip) (QQ R Q) a w2 := by
  conv => arg 2; whnf
  refine wp_loop_hand (X := Nat) (fun k a wr => ∃ (K : Nat → Nat) (V : Nat → Value), k ≤ n ∧ Sit w wr w.heap.size bM bS bA bP B0 n k k (tA T k) K V (LA (PP l2 pz) (.pointer (some ⟨w.heap.size, 0, none⟩))) (pA (PP l2 pz) k) (.slice none 0 0) [] [] ∧ a = fA a0 a1 a2 n l1 l2 c0 c1 c2 w.heap.size bM bA bP (.int .i64 k) (sl a)) (fun k => n - k) 0 ⟨K0, V0, Nat.zero_le _, S0, ha⟩ ?_
  clear S0 ha a w2
  rintro k a wr ⟨K, V, hk, hr, ha⟩ Kc hK1
  obtain ⟨U, rfl⟩ : ∃ U, a = fA a0 a1 a2 n l1 l2 c0 c1 c2 w.heap.size bM bA bP (.int .i64 k) U := ⟨_, ha⟩
  clear ha
  unfold fA
  by_cases hlt : k < n
  · clear HQ
    obtain ⟨bt, ot, rfl, hbt, hct⟩ := hT.out (by omega)
    have ct := (hr.below.cell (p := ⟨bt, ot + k, none⟩) hbt).trans (hct k hlt)
    have c2 := hr.acc.cell2
    have c39 := hr.stakes.cell39 hlt
    have f39 := hr.stakes.free (k * 41 + 39)
    clear hct
    have hkn : (k : Int) < (n : Int) := by omega
    go_wp2_with fail
    go_region
    replace hr := (hr.stake hlt (T k)).kept (w' := (wr.setCell ⟨bS, k * 41 + 39, none⟩ (.bool (T k))).drew) ((Below.refl _ _).drew)
    rw [tA_succ] at hr
    clear ct c2 c39 f39
    generalize (wr.setCell ⟨bS, k * 41 + 39, none⟩ (.bool (T k))).drew = wb at *
    go_upto_if 76 with fail
    have hm := hr.market (mkCells k) rfl rfl rfl (Nat.le_refl _)
    unfold mkCells at hm
    clear hr
    revert hm
    generalize wb.alloc (Obj.cells _ 74) = wm
    intro hm
    have hK := hid (upd_same K k wb.heap.size)
    generalize upd K k wb.heap.size = K1 at *
    generalize upd V k (.slice none 0 0) = V1 at *
    generalize wb.heap.size = mb at *
    go_cut [14] from 54 to 107 (fun kv wc => kv = .int .i64 (PP l2 pz k) ∧ wc = wm)
    case first =>
      by_cases hp : k < l2
      · obtain ⟨bp, op, rfl, hbp, hcp⟩ := hP.out (by omega)
        have cp := (hm.below.cell (p := ⟨bp, op + k, none⟩) hbp).trans (hcp k hp)
        have hb := pzb.out k
        clear hcp
        go_wp2_with fail
        go_meet
        case rel =>
          exact ⟨by simp [PP, hp], rfl⟩
      · go_wp2_with fail
        go_meet
        case rel => exact ⟨by simp [PP, hp], rfl⟩
    case rest =>
      obtain ⟨rfl, hw⟩ := hcut
      subst hw
      have cP := hm.pres.cell hlt
      have fP := hm.pres.frozen k
      go_upto_region 17 with fail
      replace hm := hm.pre k (PP l2 pz k)
      rw [pA_succ] at hm
      clear cP fP
      generalize wc.setCell ⟨bP, k, none⟩ (.int .i64 (PP l2 pz k)) = wd at *
      have hPk : PP l2 pz k ≤ 3 := by unfold PP; split <;> omega
      go_wp2_with fail
      refine loop2 _ a1 _ n l1 l2 c0 c1 c2 T hz pz w bM bS bA bP B0 h0 h1 h2 k hlt K1 V1 mb hK hPk _ _ hm ?_ _ rfl
      intro a wr V2 hm ha
      obtain ⟨U, rfl⟩ : ∃ U, a = fB (some ⟨bt, ot, none⟩) a1 a2 n l1 l2 c0 c1 c2 w.heap.size bM bA bP (.int .i64 k) (.pointer (some ⟨mb, 0, none⟩)) (.int .i64 (PP l2 pz k)) (.int .i64 (PP l2 pz k)) U := ⟨_, ha⟩
      clear ha
      unfold fB
      rw [LA_upd] at hm
      have cM := hm.ms.cell hlt
      have fM := hm.ms.frozen k
      have fin := hm.putMs
      rw [hK.out] at fin
      clear hm
      go_wp2
      exact hK1.out (k + 1) _ _ ⟨K1, V2, by omega, fin, rfl⟩ (by omega)
  · obtain rfl : n = k := by omega
    clear hK1
    go_wp2_with fail
    exact HQ.out _ _ K V hr rfl
end Go.Proofs.Ybulkdiks
