import Derived.Test.YbulkdilgDoorCommon
namespace Go.Proofs.YbulkdilgDoor
open Go.RowKit
set_option maxRecDepth 100000
set_option linter.unusedVariables false
set_option linter.unusedSimpArgs false
set_option linter.unnecessarySimpa false

set_option maxHeartbeats 4000000 in
theorem chk1 (sb eb : Nat) (buy : Bool) (pb qb lb rb cnt rn pc qc lc rc kb cb lim : Nat) (ds : List Nat) (M : Nat → Lv) (T : Tr) (X : Nat → Nat → Value) (P Q : Nat → Int) (rs : List Nat) (w : World) (hR : Hid (Rd w sb buy eb kb cb lim pb qb lb rb ds M T X P Q cnt rs)) (R : Ending → World → Prop) (Qq : Exit → Act → World → Prop)
    (HQ : Hid (∀ a q, a = gA sb eb buy pb qb lb rb cnt rn pc qc lc rc (.int .i64 cnt) (sl a) → Qq (.exit 0) a (w.drewN q)))
    (a : Act) (ha : a = gA sb eb buy pb qb lb rb cnt rn pc qc lc rc (.int .i64 (0 : Nat)) (sl a)) : Code.wp Ybad.prog ((Ybad.f7.body.bind (findLoop 2)).getD .skip) (QQ R Qq) a w := by
  conv => arg 2; whnf
  refine wp_loop_hand (X := Nat) (fun i a wr => ∃ q, wr = w.drewN q ∧ i ≤ cnt ∧ a = gA sb eb buy pb qb lb rb cnt rn pc qc lc rc (.int .i64 i) (sl a)) (fun i => cnt - i) 0 ⟨0, rfl, Nat.zero_le _, ha⟩ ?_
  clear ha a
  rintro i a wr ⟨q, rfl, hi, ha⟩ Kc hK
  obtain ⟨U, rfl⟩ : ∃ U, a = gA sb eb buy pb qb lb rb cnt rn pc qc lc rc (.int .i64 i) U := ⟨_, ha⟩
  clear ha
  unfold gA
  have hcle := hR.out.bk.cle
  by_cases hlt : i < cnt
  · have hi4 : i < 1024 := by omega
    obtain ⟨f1, f2, f3, f6, f13⟩ := hR.out.bk.fld i hlt
    have row := hR.out.bk.row
    have x1 := row.cell hi4 (show 1 < 14 by omega)
    rw [f1] at x1
    have x2 := row.cell hi4 (show 2 < 14 by omega)
    rw [f2] at x2
    have x3 := row.cell hi4 (show 3 < 14 by omega)
    rw [f3] at x3
    have x6 := row.cell hi4 (show 6 < 14 by omega)
    rw [f6] at x6
    have x7 := row.cell hi4 (show 7 < 14 by omega)
    have x8 := row.cell hi4 (show 8 < 14 by omega)
    have x13 := row.cell hi4 (show 13 < 14 by omega)
    rw [f13] at x13
    have cp := hR.out.cp i hlt
    have cq := hR.out.cq i hlt
    have cl := hR.out.cl i hlt
    have C4 : ∀ q, Calls Ybad.prog 4 #[.pointer (some ⟨eb, 0, none⟩), .int .u32 ((i : Int) + 1)] (w.drewN q) fun e w' => e = .returned (.pointer (some ⟨cb, i * 14, none⟩)) ∧ w' = w.drewN q := fun q => at_c eb kb cb i (w.drewN q) hi4 hR.out.bk.ec hR.out.bk.kc
    have hic : (i : Int) < (cnt : Int) := by omega
    by_cases hm : i ∈ rs
    · have hd : decide (i ∉ rs) = false := by simp [hm]
      rw [hd] at x13 cl
      have C4' := hid C4
      clear HQ f1 f2 f3 f6 f13 row C4
      go_wp2_with (go_at_call 4; refine (C4'.out _).mono ?_; rintro e w' ⟨rfl, rfl⟩)
      go_quiet (fail)
      go_wp2
      exact hK.out (i + 1) _ _ ⟨_, rfl, by omega, rfl⟩ (by omega)
    · have hd : decide (i ∉ rs) = true := by simp [hm]
      rw [hd] at x13 cl
      obtain ⟨o7, o8⟩ := hR.out.bk.out i hm
      rw [o7] at x7
      rw [o8] at x8
      have C4' := hid C4
      clear HQ f1 f2 f3 f6 f13 row C4 o7 o8
      go_wp2_with (go_at_call 4; refine (C4'.out _).mono ?_; rintro e w' ⟨rfl, rfl⟩)
      go_quiet (fail)
      go_wp2
      exact hK.out (i + 1) _ _ ⟨_, rfl, by omega, rfl⟩ (by omega)
  · obtain rfl : i = cnt := by omega
    clear hK
    go_wp2_with fail
    exact HQ.out _ q rfl
end Go.Proofs.YbulkdilgDoor
