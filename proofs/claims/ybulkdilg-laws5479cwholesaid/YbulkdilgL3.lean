import Derived.Test.YbulkdilgBld
namespace Go.Proofs.Ybulkdilg
open Go.RowKit
set_option linter.unusedVariables false
set_option linter.unusedSimpArgs false
set_option linter.unnecessarySimpa false
set_option maxRecDepth 100000

set_option maxHeartbeats 2000000 in
theorem loop3 (buy : Bool) (kk : Int) (sa : Option Addr) (n sc : Nat) (zs : List Int) (hzl : zs.length = n) (hn : n ≤ 4096) (w0 : World) (hS : Hid (∀ i, i < n → ∃ b off, sa = some ⟨b, off, none⟩ ∧ b < w0.heap.size ∧ w0.cell? ⟨b, off + i, none⟩ = some (.int .i64 (zs.getD i 0)))) (sb : Nat) (hsb : w0.heap.size = sb) (v8 : Value) (w : World) (R : Ending → World → Prop) (Q : Exit → Act → World → Prop)
    (h0 : Bld w0 sb buy [] w)
    (HQ : Hid (∀ a wr, Bld w0 sb buy (wf buy zs) wr → a = fC buy kk sa n sc sb v8 (.int .i64 n) (sl a) → Q (.exit 4) a wr))
    (a : Act) (ha : a = fC buy kk sa n sc sb v8 (.int .i64 (0 : Nat)) (sl a)) : Code.wp Yba.prog ((Yba.f3.body.bind (findLoop 23)).getD .skip) (QQ R Q) a w := by
  conv => arg 2; whnf
  refine wp_loop_hand (X := Nat) (fun k a wr => k ≤ n ∧ Bld w0 sb buy (wf buy (zs.take k)) wr ∧ a = fC buy kk sa n sc sb v8 (.int .i64 k) (sl a)) (fun k => n - k) 0 ⟨Nat.zero_le _, h0, ha⟩ ?_
  clear ha a h0
  rintro k a wr ⟨hk, hW, ha⟩ Kc hK
  obtain ⟨U, rfl⟩ : ∃ U, a = fC buy kk sa n sc sb v8 (.int .i64 k) U := ⟨_, ha⟩
  clear ha
  unfold fC
  have hwl := wf_len buy zs k (by omega)
  by_cases hlt : k < n
  · obtain ⟨b, off, rfl, hb0, hc0⟩ := hS.out k hlt
    have hc : wr.cell? ⟨b, off + k, none⟩ = some (.int .i64 (zs.getD k 0)) := by
      obtain ⟨ds, M, T, _, _, _, hb⟩ := hW
      exact (hb.cell (p := ⟨b, off + k, none⟩) (by show b < sb; omega)).trans hc0
    have hws := hid (wf_succ buy zs k (zs.getD k 0) (by simp [List.getD, List.getElem?_eq_getElem (show k < zs.length by omega)]))
    clear hc0
    generalize zs.getD k 0 = x at *
    generalize wf buy (zs.take k) = W at *
    obtain ⟨y, C6, hcase⟩ := hW.round (by omega) x
    have hWW := hid hW
    have C6' := hid C6
    have hcs := hid hcase
    clear HQ hW C6 hcase
    go_wp2_with fail
    refine C6'.out.mono ?_
    rintro e w2 ⟨rfl, q, rfl⟩
    clear C6'
    rcases hcs.out with ⟨b1, rfl, c1, hst⟩ | ⟨hno, C7⟩
    · have hst' := hid hst
      have c1' : (wr.drewN q).cell? ⟨b1, 0, none⟩ = some (.int .i64 x) := c1
      clear hst hcs c1 hc
      rw [adr_some]
      go_wp2_with fail
      exact hK.out (k + 1) _ _ ⟨by omega, by rw [hws.out, hst'.out]; exact hWW.out.dup q, rfl⟩ (by omega)
    · have hC7 := hid (C7 q)
      clear C7 hcs hc
      cases y with
      | none =>
        rw [adr_none] at hC7 ⊢
        go_wp2_with fail
        refine hC7.out.mono ?_
        rintro e w2 ⟨⟨v, rfl⟩, hB⟩
        have hB' := hid hB
        clear hC7 hB
        go_wp2_with fail
        exact hK.out (k + 1) _ _ ⟨by omega, by rw [hws.out]; exact hB'.out, rfl⟩ (by omega)
      | some b1 =>
        obtain ⟨p, hp, c1⟩ := hno b1 rfl
        have c1' : (wr.drewN q).cell? ⟨b1, 0, none⟩ = some (.int .i64 p) := c1
        clear hno c1
        rw [adr_some] at hC7 ⊢
        go_wp2_with fail
        refine hC7.out.mono ?_
        rintro e w2 ⟨⟨v, rfl⟩, hB⟩
        have hB' := hid hB
        clear hC7 hB
        go_wp2_with fail
        exact hK.out (k + 1) _ _ ⟨by omega, by rw [hws.out]; exact hB'.out, rfl⟩ (by omega)
  · obtain rfl : k = n := by omega
    have e : zs.take k = zs := List.take_of_length_le (by omega)
    rw [e] at hW
    clear hK
    go_wp2_with fail
    exact HQ.out _ _ hW rfl
end Go.Proofs.Ybulkdilg
