import Derived.Test.YbulkdilgCommon
namespace Go.Proofs.Ybulkdilg
open Go.RowKit
set_option linter.unusedVariables false
set_option linter.unusedSimpArgs false
set_option linter.unnecessarySimpa false
set_option maxRecDepth 100000

set_option maxHeartbeats 2000000 in
theorem loop2 (buy : Bool) (kk : Int) (sa : Option Addr) (n sc : Nat) (va : Option Addr) (vc : Nat) (W : List Int) (k : Nat) (x : Int) (w wr : World) (hW : Wnt w wr va vc W) (hl : W.length ≤ 5000) (Q : Exit → Act → World → Prop)
    (HQ : Hid (∀ a (c : Nat) (d : Bool), c = cut buy x W → (d = true ↔ W[c]? = some x) → a = fB buy kk sa n sc (.slice va W.length vc) (.int .i64 k) (.int .i64 x) (.int .i64 c) (.bool d) (sl a) → Q (.exit 2) a wr))
    (a : Act) (ha : a = fB buy kk sa n sc (.slice va W.length vc) (.int .i64 k) (.int .i64 x) (.int .i64 (0 : Nat)) (.bool false) (sl a)) : Code.wp Yba.prog ((Yba.f3.body.bind (findLoop 13)).getD .skip) Q a wr := by
  conv => arg 2; whnf
  refine wp_loop_hand (X := Nat) (fun i a w' => w' = wr ∧ i ≤ W.length ∧ (∀ j, j < i → bt buy (W.getD j 0) x = true) ∧ a = fB buy kk sa n sc (.slice va W.length vc) (.int .i64 k) (.int .i64 x) (.int .i64 i) (.bool false) (sl a)) (fun i => W.length - i) 0 ⟨rfl, Nat.zero_le _, fun j hj => by omega, ha⟩ ?_
  clear ha a
  rintro i a w' ⟨rfl, hi, hj, ha⟩ Kc hK
  obtain ⟨U, rfl⟩ : ∃ U, a = fB buy kk sa n sc (.slice va W.length vc) (.int .i64 k) (.int .i64 x) (.int .i64 i) (.bool false) U := ⟨_, ha⟩
  clear ha
  unfold fB
  by_cases hlt : i < W.length
  · obtain ⟨g, rfl, hc⟩ := hW.cell hlt
    have hJ := hid hj
    have hWW := hid hW
    clear hW hj
    by_cases he : W.getD i 0 = x
    · have hc' : w'.cell? ⟨g, i, none⟩ = some (.int .i64 x) := by rw [hc, he]
      clear hc
      have ec : cut buy x W = i := cut_eq hi hJ.out (.inr (by rw [he]; exact bt_irr _ _))
      have ed : W[i]? = some x := by simpa [List.getD, List.getElem?_eq_getElem hlt] using he
      clear hK
      go_wp2_with fail
      exact HQ.out _ i true ec.symm (by simp [ed]) rfl
    · have hec : (W.getD i 0 == x) = false := by simpa using he
      have hb : ∀ w, Calls Yba.prog 4 #[.bool buy, .int .i64 x, .int .i64 (W.getD i 0)] w fun e w' => e = .returned (.bool (bt buy x (W.getD i 0))) ∧ w' = w := fun w => better_c buy x (W.getD i 0) w
      have hd : ¬ W[i]? = some x := by
        intro e
        exact he (by simp [List.getD, e])
      by_cases hbb : bt buy x (W.getD i 0) = true
      · have ec := hid (cut_eq hi hJ.out (.inr (bt_asym hbb)))
        rw [hbb] at hb
        generalize W.getD i 0 = y at *
        clear hK
        go_wp2_with (go_at_call 4; refine (hb _).mono ?_; rintro e w' ⟨rfl, rfl⟩)
        exact HQ.out _ i false ec.out.symm (by simp [hd]) rfl
      · have hbt := bt_tri (fun e => he e.symm) (by simpa using hbb)
        have hJ2 : Hid (∀ j, j < i + 1 → bt buy (W.getD j 0) x = true) := fun j hj => by
          rcases Nat.lt_succ_iff_lt_or_eq.1 hj with h | rfl
          · exact hJ.out j h
          · exact hbt
        rw [show bt buy x (W.getD i 0) = false by simpa using hbb] at hb
        generalize W.getD i 0 = y at *
        clear HQ
        go_wp2_with (go_at_call 4; refine (hb _).mono ?_; rintro e w' ⟨rfl, rfl⟩)
        exact hK.out (i + 1) _ _ ⟨rfl, by omega, hJ2.out, rfl⟩ (by omega)
  · obtain rfl : i = W.length := by omega
    have ec := hid (cut_eq (Nat.le_refl _) hj (.inl rfl))
    clear hK hW hj
    go_wp2_with fail
    exact HQ.out _ _ false ec.out.symm (by simp) rfl
end Go.Proofs.Ybulkdilg
