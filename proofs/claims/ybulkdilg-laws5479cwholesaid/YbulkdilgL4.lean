import Derived.Test.YbulkdilgBld
namespace Go.Proofs.Ybulkdilg
open Go.RowKit
set_option linter.unusedVariables false
set_option linter.unusedSimpArgs false
set_option linter.unnecessarySimpa false
set_option maxRecDepth 100000

def pv (R : List Nat) (i : Nat) : Option Nat := if i = 0 then none else R[i - 1]?
theorem lnk_rev {M : Nat → Lv} {S : List Nat} (h : Lnk M S) {i b : Nat} (hi : S.reverse[i]? = some b) : (M b).worse = S.reverse[i + 1]? ∧ (M b).better = pv S.reverse i := by
  have hlt := (List.getElem?_eq_some_iff.1 hi).1
  have e : S.reverse = S.reverse.take i ++ b :: S.reverse.drop (i + 1) := by
    have h2 : S.reverse[i] = b := (List.getElem?_eq_some_iff.1 hi).2
    rw [← h2, ← List.drop_eq_getElem_cons hlt, List.take_append_drop]
  have e2 : S = (S.reverse.drop (i + 1)).reverse ++ b :: (S.reverse.take i).reverse := by
    have := congrArg List.reverse e
    simpa using this
  obtain ⟨g1, g2⟩ := h _ b _ e2
  refine ⟨?_, ?_⟩
  · rw [g1, List.getLast?_reverse, List.head?_drop]
  · rw [g2, List.head?_reverse]
    unfold pv
    by_cases h0 : i = 0
    · simp [h0]
    · rw [if_neg h0, List.getLast?_take, if_neg h0]
      cases hx : S.reverse[i - 1]? with
      | none =>
        have := List.getElem?_eq_none_iff.1 hx
        omega
      | some x => rfl

set_option maxHeartbeats 2000000 in
theorem loop4 (buy : Bool) (kk : Int) (sa : Option Addr) (n sc : Nat) (sb : Nat) (v8 : Value) (idx : Nat) (w : World) (ds : List Nat) (M : Nat → Lv) (T : Tr) (hs : Hid (Side w sb buy none ds M T)) (hidx : idx < (io T).length) (hl : (io T).length ≤ 5000) (R : Ending → World → Prop) (Q : Exit → Act → World → Prop)
    (HQ : Hid (∀ a, a = fD buy kk sa n sc sb v8 (.int .i64 idx) (.pointer (adr (io T).reverse[idx]?)) (.int .i64 idx) (sl a) → Q (.exit 6) a w))
    (a : Act) (ha : a = fD buy kk sa n sc sb v8 (.int .i64 idx) (.pointer (adr (io T).reverse[0]?)) (.int .i64 (0 : Nat)) (sl a)) : Code.wp Yba.prog ((Yba.f3.body.bind (findLoop 33)).getD .skip) (QQ R Q) a w := by
  conv => arg 2; whnf
  refine wp_loop_hand (X := Nat) (fun i a w' => w' = w ∧ i ≤ idx ∧ a = fD buy kk sa n sc sb v8 (.int .i64 idx) (.pointer (adr (io T).reverse[i]?)) (.int .i64 i) (sl a)) (fun i => idx - i) 0 ⟨rfl, Nat.zero_le _, ha⟩ ?_
  clear ha a
  rintro i a w' ⟨rfl, hi, ha⟩ Kc hK
  obtain ⟨U, rfl⟩ : ∃ U, a = fD buy kk sa n sc sb v8 (.int .i64 idx) (.pointer (adr (io T).reverse[i]?)) (.int .i64 i) U := ⟨_, ha⟩
  clear ha
  unfold fD
  by_cases hlt : i < idx
  · have hb : (io T).reverse[i]? = some ((io T).reverse[i]'(by simp; omega)) := List.getElem?_eq_getElem _
    generalize ((io T).reverse[i]'(by simp; omega)) = b at hb
    have hbm : b ∈ io T := List.mem_reverse.1 (List.mem_of_getElem? hb)
    have hw := (lnk_rev hs.out.lnk hb).1
    have c6 := (hs.out.lvs b (hs.out.sub b hbm)).worse
    rw [hw] at c6
    rw [hb, adr_some]
    have hlen : (io T).length ≤ 5000 := hl
    have H := hid hb
    clear HQ hb hw hbm
    generalize hX : (io T).reverse[i + 1]? = X at *
    have hX' := hid hX
    clear hX
    generalize hY : adr X = Y at *
    have hY' := hid hY
    clear hY
    go_wp2_with fail
    exact hK.out (i + 1) _ _ ⟨rfl, by omega, by rw [hX'.out, hY'.out]; rfl⟩ (by omega)
  · obtain rfl : i = idx := by omega
    generalize hY : adr (io T).reverse[i]? = Y at *
    clear hK
    go_wp2_with fail
    exact HQ.out _ rfl
end Go.Proofs.Ybulkdilg
