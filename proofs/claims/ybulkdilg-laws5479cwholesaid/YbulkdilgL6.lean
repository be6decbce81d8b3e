import Derived.Test.YbulkdilgL4
namespace Go.Proofs.Ybulkdilg
open Go.RowKit
set_option linter.unusedVariables false
set_option linter.unusedSimpArgs false
set_option linter.unnecessarySimpa false
set_option maxRecDepth 100000

theorem neq_same' (x : Option Nat) (w : World) : (binOp .neq 29 (.pointer (adr x)) (.pointer (adr x))).run Yba.prog w = .ok (.bool false) w := by
  cases x with
  | none => exact ne_nil w none
  | some a =>
    obtain ⟨j, hj, hs⟩ := Option.map_eq_some_iff.1 info41
    have h : ∀ d : Nat, (Op.equalIn (d + 1) 29 (.pointer (some ⟨a, 0, none⟩)) (.pointer (some ⟨a, 0, none⟩))).run Yba.prog w = .ok true w := fun d => by
      simp [Op.equalIn, run_underlying Yba.underlying29, sizeOf, typeInfo, hj, run_sameAddr_same]
    rw [adr_some]
    simp only [binOp]
    simp [Op.equal, Op.maxDepth, h 9999]

theorem own_cell {w : World} {base m : Nat} {va : Option Addr} {vc : Nat} {S : List Nat} (h : w.ownsRow base 29 1 (.slice va m vc) m (pts S)) {i b : Nat} (hi : i < m) (hb : S[i]? = some b) : ∃ g, va = some ⟨g, 0, none⟩ ∧ w.cell? ⟨g, i, none⟩ = some (.pointer (some ⟨b, 0, none⟩)) := by
  obtain ⟨g, cap, e, _, _⟩ := h.form (by omega)
  obtain ⟨e1, e2⟩ : va = some ⟨g, 0, none⟩ ∧ vc = cap := by simpa using e
  subst e1
  refine ⟨g, rfl, ?_⟩
  have := h.cells (g := g) rfl i (pt b) (by simp [pts, hb])
  rwa [add_at, Nat.zero_add] at this

set_option maxHeartbeats 4000000 in
theorem loop6 (buy : Bool) (kk : Int) (sa : Option Addr) (n sc : Nat) (ob Bn base m : Nat) (va ia : Option Addr) (vc ic : Nat) (w : World) (S : List Nat) (hm : S.length = m) (hm5 : m ≤ 5000)
    (hv : Hid (w.ownsRow Bn 29 1 (.slice va m vc) m (pts S.reverse))) (hi : Hid (w.ownsRow base 29 1 (.slice ia m ic) m (pts S))) (co : w.cell? ⟨ob, 0, none⟩ = some (.slice ia m ic)) (R : Ending → World → Prop) (Q : Exit → Act → World → Prop)
    (HQ : Hid (∀ a q, a = fF buy kk sa n sc (.slice va m vc) (.pointer (some ⟨ob, 0, none⟩)) (.int .i64 m) (sl a) → Q (.exit 10) a (w.drewN q)))
    (a : Act) (ha : a = fF buy kk sa n sc (.slice va m vc) (.pointer (some ⟨ob, 0, none⟩)) (.int .i64 (0 : Nat)) (sl a)) : Code.wp Yba.prog ((Yba.f3.body.bind (findLoop 65)).getD .skip) (QQ R Q) a w := by
  conv => arg 2; whnf
  refine wp_loop_hand (X := Nat) (fun i a wr => ∃ q, wr = w.drewN q ∧ i ≤ m ∧ a = fF buy kk sa n sc (.slice va m vc) (.pointer (some ⟨ob, 0, none⟩)) (.int .i64 i) (sl a)) (fun i => m - i) 0 ⟨0, rfl, Nat.zero_le _, ha⟩ ?_
  clear ha a
  rintro i a wr ⟨q, rfl, hil, ha⟩ Kc hK
  obtain ⟨U, rfl⟩ : ∃ U, a = fF buy kk sa n sc (.slice va m vc) (.pointer (some ⟨ob, 0, none⟩)) (.int .i64 i) U := ⟨_, ha⟩
  clear ha
  unfold fF
  by_cases hlt : i < m
  · have hb : S[i]? = some (S[i]'(by omega)) := List.getElem?_eq_getElem _
    generalize (S[i]'(by omega)) = b at hb
    obtain ⟨j, hj⟩ : ∃ j : Nat, m = i + 1 + j := ⟨m - (i + 1), by omega⟩
    have hb2 : S.reverse[j]? = some b := by
      rw [List.getElem?_reverse (by omega), hm, show m - 1 - j = i by omega]; exact hb
    obtain ⟨g1, rfl, c1⟩ := own_cell hi.out hlt hb
    obtain ⟨g2, rfl, c2⟩ := own_cell hv.out (show j < m by omega) hb2
    have hne := fun w => neq_same' (some b) w
    rw [adr_some] at hne
    have hjj : (m : Int) - 1 - (i : Int) = (j : Int) := by omega
    have hjm : (j : Int) < (m : Int) := by omega
    have him : (i : Int) < (m : Int) := by omega
    have hJ := hid hj
    clear HQ hb hb2 hj hi hv
    go_wp2_with fail
    go_quiet (fail)
    go_wp2
    exact hK.out (i + 1) _ _ ⟨_, rfl, by omega, rfl⟩ (by omega)
  · obtain rfl : i = m := by omega
    clear hK
    go_wp2_with fail
    exact HQ.out _ q rfl
end Go.Proofs.Ybulkdilg
