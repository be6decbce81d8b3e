import Derived.Test.YbulkdiksCommon
import Derived.Test.YbulkdiksL6
import Derived.Test.YbulkdiksL7
namespace Go.Proofs.Ybulkdiks
open Go.RowKit
set_option linter.unusedVariables false
set_option linter.unusedSimpArgs false
set_option maxRecDepth 100000

set_option maxHeartbeats 8000000 in
theorem loop5 (a0 a1 a2 : Option Addr) (n l1 l2 c0 c1 c2 : Nat) (T : Nat → Bool) (hz pz : Nat → Nat) (w : World) (bM bS bA bP B0 : Nat) (h0 : n ≤ 4096) (h1 : l1 ≤ 4096) (h2 : l2 ≤ 4096) (K : Nat → Nat) (V4 : Nat → Value) (hs : List Nat) (hsb : ∀ i, i ∈ hs → i < n) (hsl2 : hs.length ≤ 4096) (ao : Option Addr) (cap bH : Nat) (hao : 0 < hs.length → ∃ g, ao = some ⟨g, 0, none⟩) (R : Ending → World → Prop) (Q : Exit → Act → World → Prop) (w5 : World) (hT : Hid (Src w a0 n (fun i => .bool (T i))))
    (h5 : Sit w w5 w.heap.size bM bS bA bP B0 n n n (tk (tA T n) hs hs.length) K V4 (Lk (tA T n) (LA (PP l2 pz) (.pointer (some ⟨w.heap.size, 0, none⟩))) (.pointer (some ⟨bA, 0, none⟩)) hs hs.length) (pA (PP l2 pz) n) (.slice ao hs.length cap) (hs.map (fun i => .pointer (some ⟨K i, 0, none⟩))) [(bH, (hs.map (fun i => Value.pointer (some ⟨K i, 0, none⟩))).toArray)])
    (HQ : Hid (∀ (a : Act) (w' : World), Below w.heap.size w w' → a = fE a0 a1 a2 n l1 l2 c0 c1 c2 w.heap.size bM bA bP (.slice (some ⟨bH, 0, none⟩) hs.length hs.length) (.int .i64 n) (sl a) → Q (.exit 8) a w'))
    (a : Act) (ha : a = fE a0 a1 a2 n l1 l2 c0 c1 c2 w.heap.size bM bA bP (.slice (some ⟨bH, 0, none⟩) hs.length hs.length) (.int .i64 (0 : Nat)) (sl a)) : Code.wp Yba.prog ((Yba.f3.body.bind (findLoop 42)).getD .skip) (QQ R Q) a w5 := by
  conv => arg 2; whnf
  refine wp_loop_hand (X := Nat) (fun k a wr => k ≤ n ∧ Sit w wr w.heap.size bM bS bA bP B0 n n n (tk (tA T n) hs hs.length) K V4 (Lk (tA T n) (LA (PP l2 pz) (.pointer (some ⟨w.heap.size, 0, none⟩))) (.pointer (some ⟨bA, 0, none⟩)) hs hs.length) (pA (PP l2 pz) n) (.slice ao hs.length cap) (hs.map (fun i => .pointer (some ⟨K i, 0, none⟩))) [(bH, (hs.map (fun i => Value.pointer (some ⟨K i, 0, none⟩))).toArray)] ∧ a = fE a0 a1 a2 n l1 l2 c0 c1 c2 w.heap.size bM bA bP (.slice (some ⟨bH, 0, none⟩) hs.length hs.length) (.int .i64 k) (sl a)) (fun k => n - k) 0 ⟨Nat.zero_le _, h5, ha⟩ ?_
  clear ha a h5 w5
  rintro k a wc ⟨hk, h5, ha⟩ Kc hK5
  obtain ⟨U, rfl⟩ : ∃ U, a = fE a0 a1 a2 n l1 l2 c0 c1 c2 w.heap.size bM bA bP (.slice (some ⟨bH, 0, none⟩) hs.length hs.length) (.int .i64 k) U := ⟨_, ha⟩
  clear ha
  unfold fE
  by_cases hkn : k < n
  · clear HQ
    have H5 := hid h5
    clear h5
    go_wp2_with fail
    refine loop6 a0 a1 a2 n l1 l2 c0 c1 c2 T hz pz w bM bS bA bP B0 h0 h1 h2 K V4 hs hsb hsl2 ao cap bH hao k hkn _ _ H5 ?_ _ rfl
    rintro a ⟨ha, h21⟩
    obtain ⟨U, rfl⟩ : ∃ U, a = fE a0 a1 a2 n l1 l2 c0 c1 c2 w.heap.size bM bA bP (.slice (some ⟨bH, 0, none⟩) hs.length hs.length) (.int .i64 k) U := ⟨_, ha⟩
    clear ha
    replace h21 : U 21 = .bool (has hs k) := h21
    unfold fE
    rw [h21]
    clear h21
    obtain ⟨cs, hcl, hcr, c39, c0', c36, c37, c38, c40, hone⟩ := H5.out.stakes.range hkn
    have htk : tk (tA T n) hs hs.length k = (T k || has hs k) := by
      unfold tk tA
      rw [if_pos hkn, List.take_of_length_le (Nat.le_refl _)]
    rw [htk] at c39
    have c2 := H5.out.acc.cell2
    have HC := hid (copied wc cs hcl hone)
    have HCR := hid hcr
    have HCL := hid hcl
    have HONE := hid hone
    have HC39 := hid (show cs[39]? = _ ∧ cs[0]? = _ ∧ cs[36]? = _ ∧ cs[37]? = _ ∧ cs[38]? = _ ∧ cs[40]? = _ from ⟨c39, c0', c36, c37, c38, c40⟩)
    clear hcr hcl hone htk c39 c0' c36 c37 c38 c40
    go_wp2_with (first
      | (refine wpList_load_mid rfl 45 (.tmp 203) rfl bS (k * 41) rfl cs _ HCR.out Yba.underlying45 rfl (by rw [HCL.out]; exact size45) ?_)
      | (refine wpList_store_mid rfl 45 (.tmp 24) (.tmp 204) rfl wc.heap.size 0 cs.toArray rfl rfl (by simp only [List.size_toArray, HCL.out]; exact (there_new wc _ rfl)) (by simp only [List.size_toArray, HCL.out]; exact size45) (all_oneCell_toArray HONE.out) ?_))
    have hcp := HC.out stake0 rfl
    unfold stake0 at hcp
    clear HC HCR HCL HONE c2
    revert hcp
    generalize (wc.alloc (Obj.cells _ 45)).setCells wc.heap.size 0 cs = w6
    rintro ⟨hb6, hc6⟩
    obtain ⟨c39, c0', c36, c37, c38, c40⟩ := HC39.out
    have d39 := hc6 _ _ c39
    have d0 := hc6 _ _ c0'
    have d36 := hc6 _ _ c36
    have d37 := hc6 _ _ c37
    have d38 := hc6 _ _ c38
    have d40 := hc6 _ _ c40
    clear hc6 c39 c0' c36 c37 c38 c40 HC39
    have H6 := hid (H5.out.kept hb6)
    clear hb6 H5
    generalize wc.heap.size = bC at *
    obtain ⟨bt, ot, rfl, hbt, hct⟩ := hT.out (by omega)
    have ct := (H6.out.below.cell (p := ⟨bt, ot + k, none⟩) hbt).trans (hct k hkn)
    simp only [] at ct
    clear hct
    have hkni : (k : Int) < (n : Int) := by omega
    simp only [Act.put, List.setIfInBounds_toArray, List.set_cons_succ, List.set_cons_zero]
    go_cut [214] from 180 to 293 (fun b wx => b = .bool false ∧ ∃ r, wx = w6.drewN r)
    case first =>
      generalize T k = x at *
      generalize has hs k = y at *
      cases x <;> cases y
      all_goals
        simp only [Bool.or_true, Bool.or_false, Bool.true_or, Bool.false_or] at d39
        go_quiet (fail)
        go_wp2
        go_meet
        case rel => exact ⟨rfl, _, rfl⟩
    case rest =>
      obtain ⟨rfl, r, hw⟩ := hcut
      subst hw
      have cP := H6.out.pres.cell hkn
      simp only [pA, if_pos hkn] at cP
      have hPk : PP l2 pz k ≤ 3 := by unfold PP; split <;> omega
      have HV := hid (ownShape hkn H6.out)
      generalize PP l2 pz k = m at *
      go_upto_region 58 with fail
      go_cut [248] from 180 to 293 (fun b wx => b = .bool (!T k && has hs k) ∧ wx = w6.drewN r)
      case first =>
        generalize T k = x at *
        generalize has hs k = y at *
        clear d39
        cases x <;> cases y
        all_goals
          go_wp2_with fail
          go_meet
          case rel => exact ⟨rfl, rfl⟩
      case rest =>
        obtain ⟨rfl, hw⟩ := hcut
        subst hw
        obtain ⟨aV, capV, hV, hVc⟩ := HV.out
        generalize (!T k && has hs k) = xb at *
        go_upto_if 248 with fail
        go_cut [26] from 180 to 293 (fun v wx => v = .int .i64 ((m + (if xb = true then 1 else 0) : Nat) : Int) ∧ wx = w6.drewN r)
        case first =>
          clear hV hVc HV
          cases xb
          all_goals
            go_wp2_with fail
            go_meet
            case rel => exact ⟨by simp, rfl⟩
        case rest =>
          obtain ⟨rfl, hw⟩ := hcut
          subst hw
          have hm1 : m ≤ m + (if xb = true then 1 else 0) := by omega
          have hm2 : m + (if xb = true then 1 else 0) ≤ m + 1 := by split <;> omega
          generalize m + (if xb = true then 1 else 0) = wn at *
          have cM := H6.out.ms.cell hkn
          rw [if_pos hkn] at cM
          have M := (H6.out.mkt k hkn).2
          have c41 := M.cell41
          rw [hV] at c41
          have c14 := M.cell14
          clear M hV HV
          have HVC := hid hVc
          clear hVc
          go_wp2_with fail
          refine loop7 (some ⟨bt, ot, none⟩) a1 a2 n l1 l2 c0 c1 c2 w bM bA bP bH hs k m wn capV aV hPk hm1 hm2 _ w6 r HVC ?_ _ rfl
          intro a ha
          obtain ⟨U, rfl⟩ : ∃ U, a = fG (some ⟨bt, ot, none⟩) a1 a2 n l1 l2 c0 c1 c2 w.heap.size bM bA bP (.slice (some ⟨bH, 0, none⟩) hs.length hs.length) (.int .i64 k) (.int .i64 m) (.int .i64 wn) (.slice aV wn capV) (.int .i64 m) U := ⟨_, ha⟩
          clear ha
          unfold fG
          have hnp := fun a w => run_neq_ptr_same (P := Yba.prog) w (tp := 24) (te := 30) a Yba.underlying24 info30
          have fin := H6.out.kept (below_drewN (Below.refl w6.heap.size w6) r)
          have FIN := hid fin
          clear fin
          by_cases hx : m < wn
          · obtain ⟨g, rfl, _, hA⟩ := HVC.out (by omega)
            have cA := hA hx
            have hxi : (m : Int) < (wn : Int) := by omega
            clear hA HVC
            go_wp2
            exact hK5.out (k + 1) _ _ ⟨by omega, FIN.out, rfl⟩ (by omega)
          · clear HVC
            go_wp2
            exact hK5.out (k + 1) _ _ ⟨by omega, FIN.out, rfl⟩ (by omega)
  · obtain rfl : n = k := by omega
    clear hK5
    have hb := h5.below
    clear h5
    go_wp2_with fail
    exact HQ.out _ _ hb rfl
end Go.Proofs.Ybulkdiks
