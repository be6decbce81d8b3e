import Derived.Test.YbulkdilgDoorCon
import Derived.Test.YbulkdilgDoorAcc
namespace Go.Proofs.YbulkdilgDoor
open Go.RowKit
set_option maxRecDepth 100000
set_option linter.unusedVariables false
set_option linter.unusedSimpArgs false
set_option linter.unnecessarySimpa false

def pv (R : List Nat) (i : Nat) : Option Nat := if i = 0 then none else R[i - 1]?
theorem lnk_rev {M : Nat → Lv} {S : List Nat} (h : Lnk M S) {i b : Nat} (hi : S.reverse[i]? = some b) : (M b).worse = S.reverse[i + 1]? ∧ (M b).better = pv S.reverse i := by
  have hlt := (List.getElem?_eq_some_iff.1 hi).1
  have e : S.reverse = S.reverse.take i ++ b :: S.reverse.drop (i + 1) := by
    have h2 : S.reverse[i] = b := (List.getElem?_eq_some_iff.1 hi).2
    rw [← h2, ← List.drop_eq_getElem_cons hlt, List.take_append_drop]
  have e2 : S = (S.reverse.drop (i + 1)).reverse ++ b :: (S.reverse.take i).reverse := by
    have := congrArg List.reverse e
    simpa using this
  obtain ⟨g1, g2⟩ := h _ b _ e2
  refine ⟨?_, ?_⟩
  · rw [g1, List.getLast?_reverse, List.head?_drop]
  · rw [g2, List.head?_reverse]
    unfold pv
    by_cases h0 : i = 0
    · simp [h0]
    · rw [if_neg h0, List.getLast?_take, if_neg h0]
      cases hx : S.reverse[i - 1]? with
      | none =>
        have := List.getElem?_eq_none_iff.1 hx
        omega
      | some x => rfl
theorem neq_same (x : Option Nat) (w : World) : (binOp .neq 34 (.pointer (adr x)) (.pointer (adr x))).run Ybad.prog w = .ok (.bool false) w := by
  cases x with
  | none => exact ne_nil w none
  | some a =>
    obtain ⟨j, hj, hs⟩ := Option.map_eq_some_iff.1 info41
    have h : ∀ d : Nat, (Op.equalIn (d + 1) 34 (.pointer (some ⟨a, 0, none⟩)) (.pointer (some ⟨a, 0, none⟩))).run Ybad.prog w = .ok true w := fun d => by
      simp [Op.equalIn, run_underlying Ybad.underlying34, sizeOf, typeInfo, hj, run_sameAddr_same]
    rw [adr_some]
    simp only [binOp]
    simp [Op.equal, Op.maxDepth, h 9999]
theorem own_cell {w : World} {base m : Nat} {va : Option Addr} {vc : Nat} {S : List Nat} (h : w.ownsRow base 34 1 (.slice va m vc) m (pts S)) {i b : Nat} (hi : i < m) (hb : S[i]? = some b) : ∃ g, va = some ⟨g, 0, none⟩ ∧ w.cell? ⟨g, i, none⟩ = some (.pointer (some ⟨b, 0, none⟩)) := by
  obtain ⟨g, cap, e, _, _⟩ := h.form (by omega)
  obtain ⟨e1, e2⟩ : va = some ⟨g, 0, none⟩ ∧ vc = cap := by simpa using e
  subst e1
  refine ⟨g, rfl, ?_⟩
  have := h.cells (g := g) rfl i (pt b) (by simp [pts, hb])
  rwa [add_at, Nat.zero_add] at this

set_option maxHeartbeats 4000000 in
theorem chk8 (sb eb : Nat) (buy : Bool) (pb qb lb rb cnt rn pc qc lc rc Bn base m : Nat) (va ia : Option Addr) (vc ic : Nat) (w : World) (S : List Nat) (hm : S.length = m) (hm5 : m ≤ 5000)
    (hv : Hid (w.ownsRow Bn 34 1 (.slice va m vc) m (pts S.reverse))) (hi : Hid (w.ownsRow base 34 1 (.slice ia m ic) m (pts S))) (R : Ending → World → Prop) (Qq : Exit → Act → World → Prop)
    (HQ : Hid (∀ a q, a = gH sb eb buy pb qb lb rb cnt rn pc qc lc rc (.slice va m vc) (.slice ia m ic) (.int .i64 m) (.int .i64 m) (sl a) → Qq (.exit 14) a (w.drewN q)))
    (a : Act) (ha : a = gH sb eb buy pb qb lb rb cnt rn pc qc lc rc (.slice va m vc) (.slice ia m ic) (.int .i64 m) (.int .i64 (0 : Nat)) (sl a)) : Code.wp Ybad.prog ((Ybad.f7.body.bind (findLoop 68)).getD .skip) (QQ R Qq) a w := by
  conv => arg 2; whnf
  refine wp_loop_hand (X := Nat) (fun i a wr => ∃ q, wr = w.drewN q ∧ i ≤ m ∧ a = gH sb eb buy pb qb lb rb cnt rn pc qc lc rc (.slice va m vc) (.slice ia m ic) (.int .i64 m) (.int .i64 i) (sl a)) (fun i => m - i) 0 ⟨0, rfl, Nat.zero_le _, ha⟩ ?_
  clear ha a
  rintro i a wr ⟨q, rfl, hil, ha⟩ Kc hK
  obtain ⟨U, rfl⟩ : ∃ U, a = gH sb eb buy pb qb lb rb cnt rn pc qc lc rc (.slice va m vc) (.slice ia m ic) (.int .i64 m) (.int .i64 i) U := ⟨_, ha⟩
  clear ha
  unfold gH
  by_cases hlt : i < m
  · have hb : S[i]? = some (S[i]'(by omega)) := List.getElem?_eq_getElem _
    generalize (S[i]'(by omega)) = b at hb
    obtain ⟨j, hj⟩ : ∃ j : Nat, m = i + 1 + j := ⟨m - (i + 1), by omega⟩
    have hb2 : S.reverse[j]? = some b := by
      rw [List.getElem?_reverse (by omega), hm, show m - 1 - j = i by omega]; exact hb
    obtain ⟨g1, rfl, c1⟩ := own_cell hi.out hlt hb
    obtain ⟨g2, rfl, c2⟩ := own_cell hv.out (show j < m by omega) hb2
    have hne := fun w => neq_same (some b) w
    rw [adr_some] at hne
    have hjj : (m : Int) - 1 - (i : Int) = (j : Int) := by omega
    have hjm : (j : Int) < (m : Int) := by omega
    have him : (i : Int) < (m : Int) := by omega
    have hJ := hid hj
    clear HQ hb hb2 hj hi hv
    go_wp2_with fail
    go_quiet (fail)
    go_wp2
    exact hK.out (i + 1) _ _ ⟨_, rfl, by omega, rfl⟩ (by omega)
  · obtain rfl : i = m := by omega
    clear hK
    go_wp2_with fail
    exact HQ.out _ q rfl
end Go.Proofs.YbulkdilgDoor
