import Derived.Test.YbulkdilgL2
namespace Go.Proofs.Ybulkdilg
open Go.RowKit
set_option linter.unusedVariables false
set_option linter.unusedSimpArgs false
set_option linter.unnecessarySimpa false
set_option maxRecDepth 100000

set_option maxHeartbeats 2000000 in
theorem loop1 (buy : Bool) (kk : Int) (sa : Option Addr) (n sc : Nat) (zs : List Int) (hzl : zs.length = n) (hn : n ≤ 4096) (w : World) (hS : Hid (Src w sa n zs)) (R : Ending → World → Prop) (Q : Exit → Act → World → Prop)
    (HQ : Hid (∀ a wr va vc, Wnt w wr va vc (wf buy zs) → a = fA buy kk sa n sc (.slice va (wf buy zs).length vc) (.int .i64 n) (sl a) → Q (.exit 0) a wr))
    (a : Act) (ha : a = fA buy kk sa n sc (.slice none 0 0) (.int .i64 (0 : Nat)) (sl a)) : Code.wp Yba.prog ((Yba.f3.body.bind (findLoop 8)).getD .skip) (QQ R Q) a w := by
  conv => arg 2; whnf
  refine wp_loop_hand (X := Nat) (fun k a wr => ∃ va vc, k ≤ n ∧ Wnt w wr va vc (wf buy (zs.take k)) ∧ a = fA buy kk sa n sc (.slice va (wf buy (zs.take k)).length vc) (.int .i64 k) (sl a)) (fun k => n - k) 0 ⟨none, 0, Nat.zero_le _, ⟨World.ownsRow_nil _ _ _ _, Below.refl _ _⟩, ha⟩ ?_
  clear ha a
  rintro k a wr ⟨va, vc, hk, hW, ha⟩ Kc hK
  obtain ⟨U, rfl⟩ : ∃ U, a = fA buy kk sa n sc (.slice va (wf buy (zs.take k)).length vc) (.int .i64 k) U := ⟨_, ha⟩
  clear ha
  unfold fA
  have hwl := wf_len buy zs k (by omega)
  by_cases hlt : k < n
  · obtain ⟨b, off, rfl, hc⟩ := hS.out.of hW.2 k hlt
    have hws := wf_succ buy zs k (zs.getD k 0) (by simp [List.getD, List.getElem?_eq_getElem (show k < zs.length by omega)])
    generalize zs.getD k 0 = x at *
    have hWS := hid hws
    generalize hWg : wf buy (zs.take k) = W at *
    have hWW := hid hW
    clear HQ hWg hws hW
    go_wp2_with fail
    refine loop2 buy kk (some ⟨b, off, none⟩) n sc va vc W k x w wr hWW.out (by omega) _ ?_ _ rfl
    intro a c d hcut hd ha
    obtain ⟨U, rfl⟩ : ∃ U, a = fB buy kk (some ⟨b, off, none⟩) n sc (.slice va W.length vc) (.int .i64 k) (.int .i64 x) (.int .i64 c) (.bool d) U := ⟨_, ha⟩
    clear ha
    unfold fB
    clear hc
    cases d with
    | true =>
      have hnew : wf buy (zs.take (k + 1)) = W := by
        rw [hWS.out]; unfold stp; rw [← hcut, if_pos (hd.1 rfl)]
      have hF := hid hnew
      clear hnew hd hcut hWS
      go_wp2_with fail
      refine hK.out (k + 1) _ _ ⟨va, vc, by omega, by rw [hF.out]; exact hWW.out, ?_⟩ (by omega)
      rw [hF.out]
      rfl
    | false =>
      have hnew : wf buy (zs.take (k + 1)) = W.take c ++ x :: W.drop c := by
        rw [hWS.out]; unfold stp; rw [← hcut, if_neg (fun e => by have := hd.2 e; cases this)]
      have hcl : c ≤ W.length := by rw [hcut]; unfold cut; exact (List.takeWhile_sublist _).length_le
      have hF := hid hnew
      have hbs : w.heap.size ≤ wr.heap.size := hWW.out.2.size
      clear hnew hd hcut hWS
      have hIns : Hid (Calls Yba.prog 5 #[.slice va W.length vc, .int .i64 c, .slice (some ⟨wr.heap.size, 0, none⟩) 1 1] (wr.alloc (.cells #[.int .i64 x] 25)) fun e w' => ∃ v', e = .returned v' ∧ w'.ownsRow w.heap.size 25 1 v' (W.length + 1) ((am W).take c ++ .int .i64 x :: (am W).drop c) ∧ Below w.heap.size (wr.alloc (.cells #[.int .i64 x] 25)) w') := by
        refine ins_c w.heap.size W.length c _ (am W) x wr.heap.size _ (hWW.out.1.alloc _) (am_one W) hcl (by omega) (heap_alloc_new _ _) ?_ (by rw [← World.alloc_eq]; simp; omega)
        intro e
        have := (hWW.out.1.lt _ e).2
        omega
      go_wp2_with fail
      refine hIns.out.mono ?_
      rintro e w2 ⟨v', rfl, hown, hb⟩
      obtain ⟨g, cap, rfl, _, _⟩ := hown.form (by omega)
      clear hIns
      go_wp2
      have hlen : (wf buy (zs.take (k + 1))).length = W.length + 1 := by rw [hF.out]; simp; omega
      refine hK.out (k + 1) _ _ ⟨some ⟨g, 0, none⟩, cap, by omega, ⟨?_, ?_⟩, ?_⟩ (by omega)
      · rw [hlen, hF.out]
        have e : am (W.take c ++ x :: W.drop c) = (am W).take c ++ .int .i64 x :: (am W).drop c := by simp [am]
        rw [e]; exact hown
      · exact (hWW.out.2.alloc hbs _).trans hb
      · rw [hlen]
        rfl
  · obtain rfl : k = n := by omega
    have e : zs.take k = zs := List.take_of_length_le (by omega)
    rw [e] at hW ⊢
    clear hK
    go_wp2_with fail
    exact HQ.out _ _ va vc hW rfl
end Go.Proofs.Ybulkdilg
