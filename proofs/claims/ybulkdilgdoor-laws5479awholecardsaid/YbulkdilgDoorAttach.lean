import Derived.Test.YbulkdilgDoorRebal
namespace Go.Proofs.YbulkdilgDoor
open Go.RowKit
set_option linter.unusedVariables false
set_option linter.unusedSimpArgs false
set_option linter.unnecessarySimpa false

/-- Is price p better than q? -/
def bt (buy : Bool) (p q : Int) : Bool := if buy then decide (q < p) else decide (p < q)

section
variable {w : World} {ds : List Nat} {M : Nat → Lv}

theorem beats_c (buy : Bool) (sb : Nat) (p q : Int) (w : World) (hc : w.cell? ⟨sb, 0, none⟩ = some (.bool buy)) :
    Calls Ybad.prog 17 #[.pointer (some ⟨sb, 0, none⟩), .int .i64 p, .int .i64 q] w fun e w' => e = .returned (.bool (bt buy p q)) ∧ w' = w := by
  cases buy
  · go_enter Ybad.func17, Ybad.ntmps17
    go_wp2
    go_ret
    exact ⟨rfl, rfl⟩
  · go_enter Ybad.func17, Ybad.ntmps17
    go_wp2
    go_ret
    exact ⟨rfl, rfl⟩

theorem split_right {A B xs ys : List Nat} {b : Nat} (h : A ++ b :: B = xs ++ ys) (hb : b ∉ ys) : ∃ xs', xs = A ++ b :: xs' ∧ B = xs' ++ ys := by
  rcases List.append_eq_append_iff.1 h with ⟨a', h1, h2⟩ | ⟨c', h1, h2⟩
  · cases a' with
    | nil => simp at h2; exact absurd (by rw [← h2]; simp) hb
    | cons x r => simp at h2; obtain ⟨rfl, rfl⟩ := h2; exact ⟨r, h1, rfl⟩
  · exact absurd (by rw [h2]; simp) hb
theorem split_left {A B xs ys : List Nat} {b : Nat} (h : A ++ b :: B = xs ++ ys) (hb : b ∉ xs) : ∃ ys', ys = ys' ++ b :: B ∧ A = xs ++ ys' := by
  rcases List.append_eq_append_iff.1 h with ⟨a', h1, h2⟩ | ⟨c', h1, h2⟩
  · cases a' with
    | nil => simp at h2 h1; exact ⟨[], by simp [h2], by simp [h1]⟩
    | cons x r => simp at h2; obtain ⟨rfl, rfl⟩ := h2; exact absurd (by rw [h1]; simp) hb
  · exact ⟨c', h2, h1⟩

theorem attach_nil (sb l : Nat) (w : World) : Calls Ybad.prog 18 #[.pointer (some ⟨sb, 0, none⟩), .pointer none, .pointer (some ⟨l, 0, none⟩)] w fun e w' => e = .returned (.pointer (some ⟨l, 0, none⟩)) ∧ w' = w := by
  go_enter Ybad.func18, Ybad.ntmps18
  go_wp2
  go_ret
  exact ⟨rfl, rfl⟩

/-- The step to the better side, its callees by contracts: what the call below leaves, what rebalancing leaves. -/
theorem attach_r (buy : Bool) (sb b l : Nat) (xr : Option Addr) (pl pb : Int) (w : World) (Z : Option Addr → World → Prop) (Y : Option Addr → World → Prop)
    (cs : w.cell? ⟨sb, 0, none⟩ = some (.bool buy)) (cl : w.cell? ⟨l, 0, none⟩ = some (.int .i64 pl)) (cb : w.cell? ⟨b, 0, none⟩ = some (.int .i64 pb)) (c9 : w.cell? ⟨b, 9, none⟩ = some (.pointer xr)) (hbt : bt buy pl pb = true)
    (C1 : Hid (∀ n, Calls Ybad.prog 18 #[.pointer (some ⟨sb, 0, none⟩), .pointer xr, .pointer (some ⟨l, 0, none⟩)] (w.drewN n) fun e w' => ∃ x, e = .returned (.pointer x) ∧ Z x w'))
    (F1 : Hid (∀ x w', Z x w' → (∃ v, w'.cell? ⟨b, 9, none⟩ = some v) ∧ w'.frozen? ⟨b, 9, none⟩ = false))
    (C2 : Hid (∀ x w', Z x w' → Calls Ybad.prog 24 #[.pointer (some ⟨b, 0, none⟩)] (w'.setCell ⟨b, 9, none⟩ (.pointer x)) fun e w'' => ∃ y, e = .returned (.pointer y) ∧ Y y w'')) :
    Calls Ybad.prog 18 #[.pointer (some ⟨sb, 0, none⟩), .pointer (some ⟨b, 0, none⟩), .pointer (some ⟨l, 0, none⟩)] w fun e w' => ∃ y, e = .returned (.pointer y) ∧ Y y w' := by
  have HB := hid hbt
  clear hbt
  go_enter Ybad.func18, Ybad.ntmps18
  go_wp2_with fail
  go_quiet ((go_at_call 17; exact Calls.quiet_of_same (beats_c buy sb pl pb _ cs)))
  rw [HB.out]
  replace c9 : (w.drewN nq).cell? ⟨b, 9, none⟩ = _ := c9
  have C1' := hid (C1.out nq)
  clear C1 cs cl cb
  generalize w.drewN nq = w1 at *
  go_wp2_with fail
  refine C1'.out.mono ?_
  rintro e w2 ⟨x, rfl, hz⟩
  obtain ⟨⟨v, c⟩, f⟩ := F1.out x w2 hz
  have D := hid (C2.out x w2 hz)
  clear C1' C2 F1 c9
  go_wp2_with fail
  refine D.out.mono ?_
  rintro e w3 ⟨y, rfl, hy⟩
  clear D c f
  go_wp2
  go_ret
  exact ⟨y, rfl, hy⟩
/-- The step to the worse side, its callees by contracts: what the call below leaves, what rebalancing leaves. -/
theorem attach_l (buy : Bool) (sb b l : Nat) (xr : Option Addr) (pl pb : Int) (w : World) (Z : Option Addr → World → Prop) (Y : Option Addr → World → Prop)
    (cs : w.cell? ⟨sb, 0, none⟩ = some (.bool buy)) (cl : w.cell? ⟨l, 0, none⟩ = some (.int .i64 pl)) (cb : w.cell? ⟨b, 0, none⟩ = some (.int .i64 pb)) (c9 : w.cell? ⟨b, 8, none⟩ = some (.pointer xr)) (hbt : bt buy pl pb = false)
    (C1 : Hid (∀ n, Calls Ybad.prog 18 #[.pointer (some ⟨sb, 0, none⟩), .pointer xr, .pointer (some ⟨l, 0, none⟩)] (w.drewN n) fun e w' => ∃ x, e = .returned (.pointer x) ∧ Z x w'))
    (F1 : Hid (∀ x w', Z x w' → (∃ v, w'.cell? ⟨b, 8, none⟩ = some v) ∧ w'.frozen? ⟨b, 8, none⟩ = false))
    (C2 : Hid (∀ x w', Z x w' → Calls Ybad.prog 24 #[.pointer (some ⟨b, 0, none⟩)] (w'.setCell ⟨b, 8, none⟩ (.pointer x)) fun e w'' => ∃ y, e = .returned (.pointer y) ∧ Y y w'')) :
    Calls Ybad.prog 18 #[.pointer (some ⟨sb, 0, none⟩), .pointer (some ⟨b, 0, none⟩), .pointer (some ⟨l, 0, none⟩)] w fun e w' => ∃ y, e = .returned (.pointer y) ∧ Y y w' := by
  have HB := hid hbt
  clear hbt
  go_enter Ybad.func18, Ybad.ntmps18
  go_wp2_with fail
  go_quiet ((go_at_call 17; exact Calls.quiet_of_same (beats_c buy sb pl pb _ cs)))
  rw [HB.out]
  replace c9 : (w.drewN nq).cell? ⟨b, 8, none⟩ = _ := c9
  have C1' := hid (C1.out nq)
  clear C1 cs cl cb
  generalize w.drewN nq = w1 at *
  go_wp2_with fail
  refine C1'.out.mono ?_
  rintro e w2 ⟨x, rfl, hz⟩
  obtain ⟨⟨v, c⟩, f⟩ := F1.out x w2 hz
  have D := hid (C2.out x w2 hz)
  clear C1' C2 F1 c9
  go_wp2_with fail
  refine D.out.mono ?_
  rintro e w3 ⟨y, rfl, hy⟩
  clear D c f
  go_wp2
  go_ret
  exact ⟨y, rfl, hy⟩

theorem ne_of {c b : Nat} {S : List Nat} (hc : c ∈ S) (hb : b ∉ S) : c ≠ b := fun e => hb (by rw [← e]; exact hc)
theorem nod_ins {A X Y : List Nat} {b l : Nat} (h : (A ++ b :: (X ++ Y)).Nodup) (hl : l ∉ A ++ b :: (X ++ Y)) : (A ++ b :: (X ++ l :: Y)).Nodup := by
  have p : (A ++ b :: (X ++ l :: Y)).Perm (l :: (A ++ b :: (X ++ Y))) := by
    have := List.perm_middle (l₁ := A ++ b :: X) (a := l) (l₂ := Y)
    simp only [List.append_assoc, List.cons_append] at this
    exact this
  exact p.nodup_iff.2 (List.nodup_cons.2 ⟨hl, h⟩)
theorem nod_ins' {A X Y : List Nat} {b l : Nat} (h : ((X ++ Y) ++ b :: A).Nodup) (hl : l ∉ (X ++ Y) ++ b :: A) : ((X ++ l :: Y) ++ b :: A).Nodup := by
  have p : ((X ++ l :: Y) ++ b :: A).Perm (l :: ((X ++ Y) ++ b :: A)) := by
    have := List.perm_middle (l₁ := X) (a := l) (l₂ := Y ++ b :: A)
    simp only [List.append_assoc, List.cons_append]
    exact this
  exact p.nodup_iff.2 (List.nodup_cons.2 ⟨hl, h⟩)

/-- ATTACH: the new level l comes between what it beats and what it does not. -/
theorem attach_c (buy : Bool) (sb l : Nat) (ds : List Nat) (hsb : sb ∉ ds) (hld : l ∈ ds) : ∀ (T : Tr) (w : World) (M : Nat → Lv) (xs ys : List Nat), Lvs w ds M → w.cell? ⟨sb, 0, none⟩ = some (.bool buy) → Rep M T → Bal T → (∀ b, b ∈ io T → b ∈ ds) → (l :: io T).Nodup →
    (M l).left = none → (M l).right = none → (M l).height = 1 → (io T).length ≤ 4200 → io T = xs ++ ys → (∀ x, x ∈ xs → bt buy (M l).price (M x).price = true) → (∀ y, y ∈ ys → bt buy (M l).price (M y).price = false) →
    Calls Ybad.prog 18 #[.pointer (some ⟨sb, 0, none⟩), .pointer (adr (root T)), .pointer (some ⟨l, 0, none⟩)] w fun e w' => ∃ y, e = .returned (.pointer y) ∧ ∃ M' T', y = adr (root T') ∧ Lvs w' ds M' ∧ Kept ds w w' ∧ Rep M' T' ∧ Bal T' ∧ io T' = xs ++ l :: ys ∧ ht T ≤ ht T' ∧ ht T' ≤ ht T + 1 ∧ Only M M' (l :: io T) := by
  intro T
  induction T with
  | nil =>
    intro w M xs ys h cs hrep hbal hsub hnd hl hr hh hlen hio hx hy
    refine (attach_nil sb l w).mono ?_
    rintro e w' ⟨rfl, rfl⟩
    have e0 : xs = [] ∧ ys = [] := by
      have : xs ++ ys = [] := hio.symm
      simpa using this
    obtain ⟨rfl, rfl⟩ := e0
    refine ⟨_, rfl, M, nd l .nil .nil, rfl, h, Kept.refl _ _, ?_, ?_, rfl, by simp [ht], by simp [ht], Only.refl _ _⟩
    · rw [Rep_nd]; exact ⟨hl, hr, hh, trivial, trivial⟩
    · rw [Bal_nd]; exact ⟨trivial, trivial, by simp [ht], by simp [ht]⟩
  | node b o u L R ihL ihR =>
    intro w M xs ys h cs hrep hbal hsub hnd hl hr hh hlen hio hx hy
    obtain ⟨rL, rR, rH, repL, repR⟩ := hrep
    have nodT0 : (io L ++ b :: io R).Nodup := (List.nodup_cons.1 hnd).2
    have lT0 : l ∉ io L ++ b :: io R := (List.nodup_cons.1 hnd).1
    obtain ⟨balL, balR, bd1, bd2⟩ := hbal
    have hbd : b ∈ ds := hsub b (by simp [io])
    have sL : ∀ c, c ∈ io L → c ∈ ds := fun c hc => hsub c (by simp [io, hc])
    have sR : ∀ c, c ∈ io R → c ∈ ds := fun c hc => hsub c (by simp [io, hc])
    simp only [io, List.nodup_cons, List.nodup_append, List.mem_append, List.mem_cons, not_or] at hnd
    obtain ⟨⟨lL, lb, lR⟩, nL, ⟨bR, nR⟩, nX⟩ := hnd
    have bL : b ∉ io L := fun hc => nX b hc b (.inl rfl) rfl
    have LR : ∀ c, c ∈ io L → c ∉ io R := fun c h1 h2 => nX c h1 c (.inr h2) rfl
    have hlen' : (io L).length + (io R).length + 1 ≤ 4200 := by simp only [io, List.length_append, List.length_cons] at hlen; omega
    have htL : ht L ≤ 25 := ht_le balL (by omega)
    have htR : ht R ≤ 25 := ht_le balR (by omega)
    have Lvb := h b hbd
    have Lvl := h l hld
    have sne : ∀ c, c ∈ ds → c ≠ sb := fun c hc e => hsb (e ▸ hc)
    show Calls Ybad.prog 18 #[.pointer (some ⟨sb, 0, none⟩), .pointer (some ⟨b, 0, none⟩), .pointer (some ⟨l, 0, none⟩)] w _
    cases hB : bt buy (M l).price (M b).price with
    | true =>
      obtain ⟨xs', rfl, hR⟩ := split_right (show io L ++ b :: io R = xs ++ ys from hio) (fun hb => by have := hy b hb; rw [hB] at this; cases this)
      have c9 := Lvb.right
      rw [rR] at c9
      refine attach_r buy sb b l _ _ _ w (fun x w' => ∃ M1 T1, x = adr (root T1) ∧ Lvs w' ds M1 ∧ Kept ds w w' ∧ Rep M1 T1 ∧ Bal T1 ∧ io T1 = xs' ++ l :: ys ∧ ht R ≤ ht T1 ∧ ht T1 ≤ ht R + 1 ∧ Only M M1 (l :: io R))
        (fun y w' => ∃ M' T', y = adr (root T') ∧ Lvs w' ds M' ∧ Kept ds w w' ∧ Rep M' T' ∧ Bal T' ∧ io T' = (io L ++ b :: xs') ++ l :: ys ∧ ht (.node b o u L R) ≤ ht T' ∧ ht T' ≤ ht (.node b o u L R) + 1 ∧ Only M M' (l :: io (.node b o u L R)))
        cs Lvl.price Lvb.price c9 hB ?_ ?_ ?_
      · intro n
        refine (ihR (w.drewN n) M xs' ys (h.drewN n) cs repR balR sR (List.nodup_cons.2 ⟨lR, nR⟩) hl hr hh (by omega) hR (fun x hx' => hx x (by simp [hx'])) hy).mono ?_
        rintro e w' ⟨y, rfl, M1, T1, e1, e2, e3, e4⟩
        exact ⟨y, rfl, M1, T1, e1, e2, ((Kept.refl ds w).drewN n).trans e3, e4⟩
      · rintro x w' ⟨M1, T1, e1, e2, e3, e4⟩
        exact ⟨⟨_, (e2 b hbd).right⟩, (e2 b hbd).free 9⟩
      · rintro x w' ⟨M1, T1, rfl, e2, e3, e4, e5, e6, e7, e8, e9⟩
        have M1b : M1 b = M b := (e9 b).1 (by simp only [List.mem_cons, not_or]; exact ⟨fun e => lb e.symm, bR⟩)
        have h2 := e2.set hbd 9 (.pointer (adr (root T1))) (v' := { M1 b with right := root T1 }) rfl
        have mT1 : ∀ c, c ∈ io T1 → c = l ∨ c ∈ io R := fun c hc => by
          rw [e6] at hc; rw [hR]
          simp only [List.mem_append, List.mem_cons] at hc ⊢
          rcases hc with hc | hc | hc <;> simp [hc]
        have bT1 : b ∉ io T1 := fun hc => by rcases mT1 b hc with e | e; exact lb e.symm; exact bR e
        have kL : ∀ c, c ∈ io L → setR M1 b (root T1) c = M c := fun c hc => by
          unfold setR; rw [upd_other _ _ _ _ (ne_of hc bL)]
          exact (e9 c).1 (by simp only [List.mem_cons, not_or]; exact ⟨ne_of hc lL, LR c hc⟩)
        have kT : ∀ c, c ∈ io T1 → setR M1 b (root T1) c = M1 c := fun c hc => by unfold setR; rw [upd_other _ _ _ _ (ne_of hc bT1)]
        have z1 : (setR M1 b (root T1) b).left = root L := by unfold setR; rw [upd_same]; show (M1 b).left = _; rw [M1b]; exact rL
        have z2 : (setR M1 b (root T1) b).right = root T1 := by unfold setR; rw [upd_same]
        have nodT : (io (nd b L T1)).Nodup := by
          rw [io_nd, e6]
          exact nod_ins (by rw [← hR]; exact nodT0) (by rw [← hR]; exact lT0)
        have subT : ∀ c, c ∈ io (nd b L T1) → c ∈ ds := fun c hc => by
          simp only [io_nd, List.mem_append, List.mem_cons] at hc
          rcases hc with hc | hc | hc
          · exact sL c hc
          · rw [hc]; exact hbd
          · rcases mT1 c hc with e | e
            · rw [e]; exact hld
            · exact sR c e
        refine (rebal_c (M := setR M1 b (root T1)) h2 z1 z2 (repL.same kL) (e4.same kT) nodT subT (by omega) (by omega) (by omega) (by omega)).mono ?_
        rintro e w2 ⟨M2, rfl, g1, g2, g3, g4⟩
        obtain ⟨q1, q2, q3, q4⟩ := bal_balT b L T1 balL e5 (by omega) (by omega)
        refine ⟨_, rfl, M2, balT b L T1, rfl, g1, (e3.set hbd 9 _).trans g2, g3, q1, ?_, ?_, ?_, ?_⟩
        · rw [io_balT, e6]; simp
        · simp only [ht]; omega
        · simp only [ht]; omega
        · have o1 : Only M M1 (l :: io (.node b o u L R)) := e9.mono (fun c hc => by simp only [io, List.mem_cons, List.mem_append] at hc ⊢; rcases hc with hc | hc <;> simp [hc])
          have o2 : Only M1 (setR M1 b (root T1)) (l :: io (.node b o u L R)) := (setR_only M1 b _).mono (fun c hc => by simp at hc; simp [io, hc])
          exact (o1.trans o2).trans (g4.mono (fun c hc => by
            simp only [io_nd, List.mem_append, List.mem_cons] at hc
            rcases hc with hc | hc | hc
            · simp [io, hc]
            · simp [io, hc]
            · rcases mT1 c hc with e | e <;> simp [io, e]))
    | false =>
      obtain ⟨ys', rfl, hL⟩ := split_left (show io L ++ b :: io R = xs ++ ys from hio) (fun hb => by have := hx b hb; rw [hB] at this; cases this)
      have c9 := Lvb.left
      rw [rL] at c9
      refine attach_l buy sb b l _ _ _ w (fun x w' => ∃ M1 T1, x = adr (root T1) ∧ Lvs w' ds M1 ∧ Kept ds w w' ∧ Rep M1 T1 ∧ Bal T1 ∧ io T1 = xs ++ l :: ys' ∧ ht L ≤ ht T1 ∧ ht T1 ≤ ht L + 1 ∧ Only M M1 (l :: io L))
        (fun y w' => ∃ M' T', y = adr (root T') ∧ Lvs w' ds M' ∧ Kept ds w w' ∧ Rep M' T' ∧ Bal T' ∧ io T' = xs ++ l :: (ys' ++ b :: io R) ∧ ht (.node b o u L R) ≤ ht T' ∧ ht T' ≤ ht (.node b o u L R) + 1 ∧ Only M M' (l :: io (.node b o u L R)))
        cs Lvl.price Lvb.price c9 hB ?_ ?_ ?_
      · intro n
        refine (ihL (w.drewN n) M xs ys' (h.drewN n) cs repL balL sL (List.nodup_cons.2 ⟨lL, nL⟩) hl hr hh (by omega) hL hx (fun y hy' => hy y (by simp [hy']))).mono ?_
        rintro e w' ⟨y, rfl, M1, T1, e1, e2, e3, e4⟩
        exact ⟨y, rfl, M1, T1, e1, e2, ((Kept.refl ds w).drewN n).trans e3, e4⟩
      · rintro x w' ⟨M1, T1, e1, e2, e3, e4⟩
        exact ⟨⟨_, (e2 b hbd).left⟩, (e2 b hbd).free 8⟩
      · rintro x w' ⟨M1, T1, rfl, e2, e3, e4, e5, e6, e7, e8, e9⟩
        have M1b : M1 b = M b := (e9 b).1 (by simp only [List.mem_cons, not_or]; exact ⟨fun e => lb e.symm, bL⟩)
        have h2 := e2.set hbd 8 (.pointer (adr (root T1))) (v' := { M1 b with left := root T1 }) rfl
        have mT1 : ∀ c, c ∈ io T1 → c = l ∨ c ∈ io L := fun c hc => by
          rw [e6] at hc; rw [hL]
          simp only [List.mem_append, List.mem_cons] at hc ⊢
          rcases hc with hc | hc | hc <;> simp [hc]
        have bT1 : b ∉ io T1 := fun hc => by rcases mT1 b hc with e | e; exact lb e.symm; exact bL e
        have kR : ∀ c, c ∈ io R → setL M1 b (root T1) c = M c := fun c hc => by
          unfold setL; rw [upd_other _ _ _ _ (ne_of hc bR)]
          exact (e9 c).1 (by simp only [List.mem_cons, not_or]; exact ⟨ne_of hc lR, fun h1 => LR c h1 hc⟩)
        have kT : ∀ c, c ∈ io T1 → setL M1 b (root T1) c = M1 c := fun c hc => by unfold setL; rw [upd_other _ _ _ _ (ne_of hc bT1)]
        have z1 : (setL M1 b (root T1) b).right = root R := by unfold setL; rw [upd_same]; show (M1 b).right = _; rw [M1b]; exact rR
        have z2 : (setL M1 b (root T1) b).left = root T1 := by unfold setL; rw [upd_same]
        have nodT : (io (nd b T1 R)).Nodup := by
          rw [io_nd, e6]
          exact nod_ins' (by rw [← hL]; exact nodT0) (by rw [← hL]; exact lT0)
        have subT : ∀ c, c ∈ io (nd b T1 R) → c ∈ ds := fun c hc => by
          simp only [io_nd, List.mem_append, List.mem_cons] at hc
          rcases hc with hc | hc | hc
          · rcases mT1 c hc with e | e
            · rw [e]; exact hld
            · exact sL c e
          · rw [hc]; exact hbd
          · exact sR c hc
        refine (rebal_c (M := setL M1 b (root T1)) h2 z2 z1 (e4.same kT) (repR.same kR) nodT subT (by omega) (by omega) (by omega) (by omega)).mono ?_
        rintro e w2 ⟨M2, rfl, g1, g2, g3, g4⟩
        obtain ⟨q1, q2, q3, q4⟩ := bal_balT b T1 R e5 balR (by omega) (by omega)
        refine ⟨_, rfl, M2, balT b T1 R, rfl, g1, (e3.set hbd 8 _).trans g2, g3, q1, ?_, ?_, ?_, ?_⟩
        · rw [io_balT, e6]; simp
        · simp only [ht]; omega
        · simp only [ht]; omega
        · have o1 : Only M M1 (l :: io (.node b o u L R)) := e9.mono (fun c hc => by simp only [io, List.mem_cons, List.mem_append] at hc ⊢; rcases hc with hc | hc <;> simp [hc])
          have o2 : Only M1 (setL M1 b (root T1)) (l :: io (.node b o u L R)) := (setL_only M1 b _).mono (fun c hc => by simp at hc; simp [io, hc])
          exact (o1.trans o2).trans (g4.mono (fun c hc => by
            simp only [io_nd, List.mem_append, List.mem_cons] at hc
            rcases hc with hc | hc | hc
            · rcases mT1 c hc with e | e <;> simp [io, e]
            · simp [io, hc]
            · simp [io, hc]))
end
end Go.Proofs.YbulkdilgDoor
