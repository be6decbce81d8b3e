import Derived.Test.YbulkdilgDoorLw3r
namespace Go.Proofs.YbulkdilgDoor
open Go.RowKit
set_option maxRecDepth 100000
set_option linter.unusedVariables false
set_option linter.unusedSimpArgs false
set_option linter.unnecessarySimpa false

set_option maxHeartbeats 8000000 in
theorem law3 (buy : Bool) (a1 : Option Addr) (n c1 : Nat) (ad : Nat → Bool) (pr qt pk : Nat → Int) (hn : n ≤ 1024) (hqt : Hid (∀ i, 0 ≤ qt i ∧ qt i < 4294967296)) (hpk : Hid (∀ i, 0 ≤ pk i ∧ pk i < 65536)) (w0 w : World) (hO : Hid (Ops w0 a1 n ad pr qt pk)) (sb eb kb cb lim pb qb lb rb nA : Nat) (hnA : na ad n = nA)
    (h0 : St w0 w buy sb eb kb cb lim pb qb lb rb nA 0 []) (R : Ending → World → Prop) (Qq : Exit → Act → World → Prop)
    (HQ : Hid (∀ a wr cnt rn, Below w0.heap.size w0 wr → a = hC buy a1 n c1 nA sb eb pb qb lb rb cnt rn (.int .i64 n) (sl a) → Qq (.exit 4) a wr))
    (a : Act) (ha : a = hC buy a1 n c1 nA sb eb pb qb lb rb 0 0 (.int .i64 (0 : Nat)) (sl a)) : Code.wp Ybad.prog ((Ybad.f3.body.bind (findLoop 24)).getD .skip) (QQ R Qq) a w := by
  show Code.wp Ybad.prog (.loop body24) (QQ R Qq) a w
  refine wp_loop_hand (X := Nat) (fun k a wr => ∃ rs, k ≤ n ∧ St w0 wr buy sb eb kb cb lim pb qb lb rb nA (na ad k) rs ∧ a = hC buy a1 n c1 nA sb eb pb qb lb rb (na ad k) rs.length (.int .i64 k) (sl a)) (fun k => n - k) 0 ⟨[], Nat.zero_le _, h0, ha⟩ ?_
  clear ha a h0 w
  rintro k a wr ⟨rs, hk, hS, ha⟩ Kc hK
  obtain ⟨U, rfl⟩ : ∃ U, a = hC buy a1 n c1 nA sb eb pb qb lb rb (na ad k) rs.length (.int .i64 k) U := ⟨_, ha⟩
  clear ha
  by_cases hlt : k < n
  · cases had : ad k with
    | true =>
      have hs : na ad (k + 1) = na ad k + 1 := by rw [na, had]; rfl
      have hc : na ad k < nA := by
        have := na_mono ad (show k + 1 ≤ n by omega)
        omega
      refine round_add buy a1 n c1 ad pr qt pk hn hqt w0 wr hO sb eb kb cb lim pb qb lb rb nA (na ad k) k hlt had hc rs hS Qq Kc ?_ R U
      intro a' w' rs' h1 h2
      refine hK.out (k + 1) a' w' ⟨rs', by omega, ?_, ?_⟩ (by omega)
      · rw [hs]; exact h1
      · rw [hs]; exact h2
    | false =>
      have hs : na ad (k + 1) = na ad k := by rw [na, had]; rfl
      refine round_rem buy a1 n c1 ad pr qt pk hn hpk w0 wr hO sb eb kb cb lim pb qb lb rb nA (na ad k) k hlt had rs hS Qq Kc ?_ R U
      intro a' w' rs' h1 h2
      refine hK.out (k + 1) a' w' ⟨rs', by omega, ?_, ?_⟩ (by omega)
      · rw [hs]; exact h1
      · rw [hs]; exact h2
  · obtain rfl : k = n := by omega
    conv => arg 2; whnf
    unfold hC
    have hB := hid hS.bel
    have hnAl := hS.nAl
    have hrl := hS.rlen
    clear hK hS hnA
    generalize na ad k = cnt at *
    go_wp2_with fail
    exact HQ.out _ _ _ _ hB.out rfl
end Go.Proofs.YbulkdilgDoor
