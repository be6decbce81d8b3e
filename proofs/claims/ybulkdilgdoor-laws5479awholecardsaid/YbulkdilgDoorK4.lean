import Derived.Test.YbulkdilgDoorCon
namespace Go.Proofs.YbulkdilgDoor
open Go.RowKit
set_option maxRecDepth 100000
set_option linter.unusedVariables false
set_option linter.unusedSimpArgs false
set_option linter.unnecessarySimpa false

theorem better_c (buy : Bool) (p q : Int) (w : World) : Calls Ybad.prog 15 #[.bool buy, .int .i64 p, .int .i64 q] w fun e w' => e = .returned (.bool (bt buy p q)) ∧ w' = w := by
  go_enter Ybad.func15, Ybad.ntmps15
  cases buy
  all_goals
    go_wp2
    go_ret
    exact ⟨by simp [bt], rfl⟩
def Dec (buy : Bool) (L : List Int) : Prop := L.Pairwise (fun x y => bt buy x y = true)
/-- What stands in the inner loop at place b. -/
def Mid (buy : Bool) (a b : Nat) (L0 L : List Int) : Prop := ∃ U x V Z, L = U ++ x :: (V ++ Z) ∧ U.length = b ∧ b + V.length = a ∧ Dec buy (U ++ V) ∧ (∀ v, v ∈ V → bt buy x v = true) ∧ L.Perm L0
def Don (buy : Bool) (a : Nat) (L0 L : List Int) : Prop := L.Perm L0 ∧ Dec buy (L.take (a + 1))
theorem Mid.done {buy : Bool} {a b : Nat} {L0 L : List Int} (h : Mid buy a b L0 L) (hn : L0.Nodup) (hb : b = 0 ∨ ∃ c, b = c + 1 ∧ bt buy (L.getD b 0) (L.getD c 0) = false) : Don buy a L0 L := by
  obtain ⟨U, x, V, Z, e, h1, h2, h3, h4, h5⟩ := h
  refine ⟨h5, ?_⟩
  have hnd : L.Nodup := h5.nodup_iff.2 hn
  have et : L.take (a + 1) = U ++ x :: V := by
    rw [e, show U ++ x :: (V ++ Z) = (U ++ x :: V) ++ Z by simp]
    exact List.take_left' (by simp; omega)
  rw [et]
  unfold Dec at h3 ⊢
  rw [List.pairwise_append] at h3 ⊢
  obtain ⟨p1, p2, p3⟩ := h3
  refine ⟨p1, List.pairwise_cons.2 ⟨h4, p2⟩, ?_⟩
  intro u hu v hv
  rcases List.mem_cons.1 hv with rfl | hv
  · rcases hb with rfl | ⟨c, rfl, hbt⟩
    · have : U = [] := List.length_eq_zero_iff.1 h1
      rw [this] at hu; simp at hu
    · rcases List.eq_nil_or_concat U with rfl | ⟨U', y, rfl⟩
      · simp at hu
      · rw [List.concat_eq_append] at *
        have hU' : U'.length = c := by simp at h1; omega
        have e1 : L.getD (c + 1) 0 = v := by
          rw [e]; simp [List.getD, List.getElem?_append, hU']
        have e2 : L.getD c 0 = y := by
          rw [e]; simp [List.getD, List.getElem?_append, hU']
        rw [e1, e2] at hbt
        have hne : v ≠ y := by
          intro he
          rw [e, he] at hnd
          have := (List.nodup_append.1 hnd).2.2 y (by simp) y (by simp)
          exact this rfl
        have hyv : bt buy y v = true := bt_tri hne hbt
        rcases List.mem_append.1 hu with hu | hu
        · have := (List.pairwise_append.1 p1).2.2 u hu y (by simp)
          exact bt_trans this hyv
        · obtain rfl := List.mem_singleton.1 hu
          exact hyv
  · exact p3 u hu v hv
theorem Mid.step {buy : Bool} {a c : Nat} {L0 L : List Int} (h : Mid buy a (c + 1) L0 L) (hbt : bt buy (L.getD (c + 1) 0) (L.getD c 0) = true) : Mid buy a c L0 ((L.set (c + 1) (L.getD c 0)).set c (L.getD (c + 1) 0)) := by
  obtain ⟨U, x, V, Z, e, h1, h2, h3, h4, h5⟩ := h
  rcases List.eq_nil_or_concat U with rfl | ⟨U', y, rfl⟩
  · simp at h1
  · rw [List.concat_eq_append] at *
    have hU' : U'.length = c := by simp at h1; omega
    have e1 : L.getD (c + 1) 0 = x := by
      rw [e]; simp [List.getD, List.getElem?_append, hU']
    have e2 : L.getD c 0 = y := by
      rw [e]; simp [List.getD, List.getElem?_append, hU']
    rw [e1, e2] at hbt ⊢
    have e3 : (L.set (c + 1) y).set c x = U' ++ x :: (y :: V ++ Z) := by
      rw [e, show U' ++ [y] ++ x :: (V ++ Z) = U' ++ y :: x :: (V ++ Z) by simp, List.set_append_right _ _ (by omega), List.set_append_right _ _ (by omega), hU', show c + 1 - c = 1 by omega, Nat.sub_self]
      rfl
    refine ⟨U', x, y :: V, Z, e3, hU', by simp; omega, ?_, ?_, ?_⟩
    · rw [show U' ++ y :: V = (U' ++ [y]) ++ V by simp]; exact h3
    · intro v hv
      rcases List.mem_cons.1 hv with rfl | hv
      · exact hbt
      · exact h4 v hv
    · rw [e3]
      refine List.Perm.trans ?_ h5
      rw [e, show U' ++ [y] ++ x :: (V ++ Z) = U' ++ y :: x :: (V ++ Z) by simp]
      exact List.Perm.append_left _ (List.Perm.swap _ _ _)
theorem Ow.store {w : World} {base g vc : Nat} {L : List Int} (h : Ow w base (some ⟨g, 0, none⟩) vc L) (j : Nat) (x : Int) : Ow (w.setCell ⟨g, j, none⟩ (.int .i64 x)) base (some ⟨g, 0, none⟩) vc (L.set j x) := by
  have := (World.ownsRow.stored h j (.int .i64 x)).1
  unfold Ow
  rw [List.length_set]
  simpa [am, List.map_set] using this

set_option maxHeartbeats 4000000 in
theorem chk4 (sb eb : Nat) (buy : Bool) (pb qb lb rb cnt rn pc qc lc rc base : Nat) (va : Option Addr) (vc n a0 : Nat) (L0 L1 : List Int) (hn : L1.length = n) (hn5 : n ≤ 5000) (hlt : a0 < n) (hnod : L0.Nodup) (w w0 : World) (hM : Mid buy a0 a0 L0 L1) (h0 : Ow w0 base va vc L1 ∧ Below base w w0) (R : Ending → World → Prop) (Qq : Exit → Act → World → Prop)
    (HQ : Hid (∀ a wr L (b : Nat), Ow wr base va vc L ∧ Below base w wr ∧ L.length = n → Don buy a0 L0 L → a = gD sb eb buy pb qb lb rb cnt rn pc qc lc rc (.slice va n vc) (.int .i64 a0) (.int .i64 b) (sl a) → QQ R Qq (.exit 6) a wr))
    (a : Act) (ha : a = gD sb eb buy pb qb lb rb cnt rn pc qc lc rc (.slice va n vc) (.int .i64 a0) (.int .i64 a0) (sl a)) : Code.wp Ybad.prog ((Ybad.f7.body.bind (findLoop 21)).getD .skip) (QQ R Qq) a w0 := by
  conv => arg 2; whnf
  refine wp_loop_hand (X := Nat) (fun b a wr => ∃ L, Mid buy a0 b L0 L ∧ (Ow wr base va vc L ∧ Below base w wr ∧ L.length = n) ∧ b ≤ a0 ∧ a = gD sb eb buy pb qb lb rb cnt rn pc qc lc rc (.slice va n vc) (.int .i64 a0) (.int .i64 b) (sl a)) (fun b => b) a0 ⟨L1, hM, ⟨h0.1, h0.2, hn⟩, Nat.le_refl _, ha⟩ ?_
  clear ha a h0 w0 hM hn
  rintro b a wr ⟨L, hM, ⟨hO, hb, hl⟩, hba, ha⟩ Kc hK
  obtain ⟨U, rfl⟩ : ∃ U, a = gD sb eb buy pb qb lb rb cnt rn pc qc lc rc (.slice va n vc) (.int .i64 a0) (.int .i64 b) U := ⟨_, ha⟩
  clear ha
  unfold gD
  cases b with
  | zero =>
    have hD := hid (hM.done hnod (.inl rfl))
    have hF := hid (And.intro hO (And.intro hb hl))
    clear hK hM hO hb
    go_wp2_with fail
    go_quiet (fail)
    go_wp2_with fail
    exact HQ.out _ _ L 0 ⟨hF.out.1, below_drewN hF.out.2.1 _, hF.out.2.2⟩ hD.out rfl
  | succ c =>
    obtain ⟨g, rfl, c1⟩ := hO.cell (show c + 1 < L.length by omega)
    obtain ⟨g', e, c2⟩ := hO.cell (show c < L.length by omega)
    obtain rfl : g = g' := by simpa using e
    have fz : ∀ j, wr.frozen? ⟨g, j, none⟩ = false := fun j => World.ownsRow.frozenAt hO j
    have C15 : ∀ q, Calls Ybad.prog 15 #[.bool buy, .int .i64 (L.getD (c + 1) 0), .int .i64 (L.getD c 0)] (wr.drewN q) fun e w' => e = .returned (.bool (bt buy (L.getD (c + 1) 0) (L.getD c 0))) ∧ w' = wr.drewN q := fun q => better_c buy _ _ _
    have hcn : (c : Int) + 1 < (n : Int) := by omega
    have hcn2 : (c : Int) < (n : Int) := by omega
    have hgb : base ≤ g := (hO.lt g rfl).1
    by_cases hbb : bt buy (L.getD (c + 1) 0) (L.getD c 0) = true
    · have hS := hid (hM.step hbb)
      rw [hbb] at C15
      have hF := hid (And.intro (fun q => ((show Ow (wr.drewN q) base (some ⟨g, 0, none⟩) vc L from hO).store (c + 1) (L.getD c 0)).store c (L.getD (c + 1) 0)) (And.intro hb hl))
      have C15' := hid C15
      clear HQ hM hO hb C15 hbb e
      generalize L.getD (c + 1) 0 = x at *
      generalize L.getD c 0 = y at *
      go_wp2_with fail
      go_quiet (first | (go_at_call 15; refine Calls.quiet_of_same (C15'.out _)))
      go_wp2_with fail
      refine hK.out c _ _ ⟨_, hS.out, ⟨hF.out.1 _, ((below_drewN hF.out.2.1 _).setCell hgb _).setCell hgb _, by simp; exact hF.out.2.2⟩, by omega, rfl⟩ (by omega)
    · have hD := hid (hM.done hnod (.inr ⟨c, rfl, by simpa using hbb⟩))
      have hbf : bt buy (L.getD (c + 1) 0) (L.getD c 0) = false := by simpa using hbb
      rw [hbf] at C15
      have hF := hid (And.intro hO (And.intro hb hl))
      have C15' := hid C15
      clear hK hM hO hb C15 hbb hbf e
      generalize L.getD (c + 1) 0 = x at *
      generalize L.getD c 0 = y at *
      go_wp2_with fail
      go_quiet (first | (go_at_call 15; refine Calls.quiet_of_same (C15'.out _)))
      go_wp2_with fail
      exact HQ.out _ _ L (c + 1) ⟨hF.out.1, below_drewN hF.out.2.1 _, hF.out.2.2⟩ hD.out rfl
end Go.Proofs.YbulkdilgDoor
