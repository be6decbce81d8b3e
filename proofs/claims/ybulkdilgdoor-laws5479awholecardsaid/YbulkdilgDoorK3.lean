import Derived.Test.YbulkdilgDoorK4
namespace Go.Proofs.YbulkdilgDoor
open Go.RowKit
set_option maxRecDepth 100000
set_option linter.unusedVariables false
set_option linter.unusedSimpArgs false
set_option linter.unnecessarySimpa false

theorem QQ_exit {R : Ending → World → Prop} {X : Exit → Act → World → Prop} {i : Nat} {a : Act} {w : World} (h : X (.exit i) a w) : QQ R X (.exit i) a w := h

set_option maxHeartbeats 4000000 in
theorem chk3 (sb eb : Nat) (buy : Bool) (pb qb lb rb cnt rn pc qc lc rc base : Nat) (va : Option Addr) (vc n : Nat) (L0 : List Int) (hn : L0.length = n) (hn5 : n ≤ 5000) (hnod : L0.Nodup) (w w0 : World) (h0 : Ow w0 base va vc L0 ∧ Below base w w0) (R : Ending → World → Prop) (Qq : Exit → Act → World → Prop)
    (HQ : Hid (∀ a wr L (x20 : Value), Ow wr base va vc L ∧ Below base w wr ∧ L.length = n → L.Perm L0 → Dec buy L → a = gC sb eb buy pb qb lb rb cnt rn pc qc lc rc (.slice va n vc) x20 (sl a) → Qq (.exit 4) a wr))
    (a : Act) (ha : a = gC sb eb buy pb qb lb rb cnt rn pc qc lc rc (.slice va n vc) (.int .i64 (1 : Nat)) (sl a)) : Code.wp Ybad.prog ((Ybad.f7.body.bind (findLoop 18)).getD .skip) (QQ R Qq) a w0 := by
  conv => arg 2; whnf
  refine wp_loop_hand (X := Nat) (fun k a wr => ∃ L, L.Perm L0 ∧ Dec buy (L.take k) ∧ (Ow wr base va vc L ∧ Below base w wr ∧ L.length = n) ∧ 1 ≤ k ∧ a = gC sb eb buy pb qb lb rb cnt rn pc qc lc rc (.slice va n vc) (.int .i64 k) (sl a)) (fun k => n - k) 1 ⟨L0, List.Perm.refl _, ?_, ⟨h0.1, h0.2, hn⟩, Nat.le_refl _, ha⟩ ?_
  · cases L0 with
    | nil => exact List.Pairwise.nil
    | cons x r => simp [Dec]
  clear ha a h0 w0
  rintro k a wr ⟨L, hp, hd, ⟨hO, hb, hl⟩, hk1, ha⟩ Kc hK
  obtain ⟨U, rfl⟩ : ∃ U, a = gC sb eb buy pb qb lb rb cnt rn pc qc lc rc (.slice va n vc) (.int .i64 k) U := ⟨_, ha⟩
  clear ha
  unfold gC
  by_cases hlt : k < n
  · have hM : Hid (Mid buy k k L0 L) := by
      refine ⟨L.take k, L[k]'(by omega), [], L.drop (k + 1), ?_, by simp; omega, by simp, by simpa using hd, fun v hv => by simp at hv, hp⟩
      rw [List.nil_append, ← List.drop_eq_getElem_cons (by omega), List.take_append_drop]
    have hF := hid (And.intro hO (And.intro hb hl))
    clear HQ hd hp hO hb
    go_wp2_with fail
    refine wp_QQ (R := R) (fun _ _ _ h => h) (chk4 sb eb buy pb qb lb rb cnt rn pc qc lc rc base va vc n k L0 L hF.out.2.2 hn5 hlt hnod w wr hM.out ⟨hF.out.1, hF.out.2.1⟩ R _ ?_ _ rfl)
    intro a w2 L2 b2 hI2 hD2 ha
    obtain ⟨U, rfl⟩ : ∃ U, a = gD sb eb buy pb qb lb rb cnt rn pc qc lc rc (.slice va n vc) (.int .i64 k) (.int .i64 b2) U := ⟨_, ha⟩
    clear ha
    unfold gD
    have hII := hid hI2
    have hDD := hid hD2
    clear hI2 hD2 hM hF
    refine QQ_exit ?_
    go_wp2_with fail
    exact hK.out (k + 1) _ _ ⟨L2, hDD.out.1, hDD.out.2, hII.out, by omega, rfl⟩ (by omega)
  · have e : L.take k = L := List.take_of_length_le (by omega)
    rw [e] at hd
    have hF := hid (And.intro hO (And.intro hb hl))
    have hpp := hid hp
    have hdd := hid hd
    clear hK hO hb hp hd
    go_wp2_with fail
    exact HQ.out _ _ L _ hF.out hpp.out hdd.out rfl
end Go.Proofs.YbulkdilgDoor
