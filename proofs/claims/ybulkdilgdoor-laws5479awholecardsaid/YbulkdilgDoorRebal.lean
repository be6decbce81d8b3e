import Derived.Test.YbulkdilgDoorLow
namespace Go.Proofs.YbulkdilgDoor
open Go.RowKit
set_option linter.unusedVariables false
set_option linter.unusedSimpArgs false
set_option linter.unnecessarySimpa false

section
variable {w : World} {ds : List Nat} {M : Nat → Lv}

theorem root_mem {T : Tr} {b : Nat} (h : root T = some b) : b ∈ io T := by
  cases T with
  | nil => simp [root] at h
  | node c o u l r => simp [root] at h; subst h; simp [io]
theorem fit_root {T : Tr} (hr : Rep M T) (hs : ∀ b, b ∈ io T → b ∈ ds) {z : Int} (hz : (ht T : Int) ≤ z) : Fit M ds z (root T) :=
  ⟨fun b e => hs b (root_mem e), by rw [hgt_root hr]; omega, by rw [hgt_root hr]; exact hz⟩
theorem hof_root (h : Lvs w ds M) {T : Tr} (hr : Rep M T) (hs : ∀ b, b ∈ io T → b ∈ ds) : Hof w (adr (root T)) (ht T : Int) := by
  have := Hof.of h (root T) (fun b e => hs b (root_mem e))
  rwa [hgt_root hr] at this
theorem Hof.drewN {x : Option Addr} {z : Int} (h : Hof w x z) (n : Nat) : Hof (w.drewN n) x z := h

theorem ne_of_nodupL {t lb : Nat} {ll lr r : Tr} (h : (io (nd t (nd lb ll lr) r)).Nodup) : t ≠ lb := by
  intro e; subst e
  simp [List.nodup_append, List.nodup_cons] at h
theorem ne_of_nodupR {t lb : Nat} {ll lr r : Tr} (h : (io (nd t r (nd lb lr ll))).Nodup) : t ≠ lb := by
  intro e; subst e
  simp [List.nodup_append, List.nodup_cons] at h
theorem root_neL {t lb : Nat} {ll lr r : Tr} (h : (io (nd t (nd lb ll lr) r)).Nodup) : root ll ≠ some t := by
  intro e
  have := root_mem e
  simp [List.nodup_append, List.nodup_cons] at h
  exact (h.2.2 t this).2 t (.inr (.inl rfl)) rfl
theorem root_neR {t lb : Nat} {ll lr r : Tr} (h : (io (nd t r (nd lb lr ll))).Nodup) : root ll ≠ some t := by
  intro e
  have := root_mem e
  simp [List.nodup_append, List.nodup_cons] at h
  simp_all

/-- Neither side is too high. -/
theorem rebal_mid (h : Lvs w ds M) {t : Nat} {l r : Tr} (htd : t ∈ ds) (hl : (M t).left = root l) (hr : (M t).right = root r) (rl : Rep M l) (rr : Rep M r) (hsub : ∀ b, b ∈ io (nd t l r) → b ∈ ds) (b1 : ht l ≤ 60) (b2 : ht r ≤ 60)
    (d1 : ht l ≤ ht r + 1) (d2 : ht r ≤ ht l + 1) :
    Calls Ybad.prog 24 #[.pointer (some ⟨t, 0, none⟩)] w fun e w' => e = .returned (.pointer (some ⟨t, 0, none⟩)) ∧ Lvs w' ds (updH M t) ∧ Kept ds w w' := by
  have sl : ∀ b, b ∈ io l → b ∈ ds := fun b hb => hsub b (by simp [hb])
  have sr : ∀ b, b ∈ io r → b ∈ ds := fun b hb => hsub b (by simp [hb])
  have L := h t htd
  have c8 := L.left
  have c9 := L.right
  rw [hl] at c8
  rw [hr] at c9
  have hol := hid (hof_root h rl sl)
  have hor := hid (hof_root h rr sr)
  have fl : Fit M ds 120 (M t).left := by rw [hl]; exact fit_root rl sl (by omega)
  have fr : Fit M ds 120 (M t).right := by rw [hr]; exact fit_root rr sr (by omega)
  have H := hid h
  clear hl hr rl rr hsub sl sr L h
  generalize adr (root l) = xl at *
  generalize adr (root r) = xr at *
  generalize ht l = zl at *
  generalize ht r = zr at *
  have hw : IntKind.i8.wrap ((zl : Int) - (zr : Int)) = (zl : Int) - (zr : Int) := by simp only [IntKind.wrap, IntKind.bits, IntKind.signed]; simp; omega
  go_enter Ybad.func24, Ybad.ntmps24
  go_wp2_with fail
  go_quiet (first
    | (go_at_call_of 26 xl; exact Calls.quiet_of_same (height_v xl zl hol.out))
    | (go_at_call_of 26 xr; exact Calls.quiet_of_same (height_v xr zr hor.out)))
  clear c8 c9
  go_wp2_with fail
  refine (updH_c (H.out.drewN _) htd fl fr).mono ?_
  rintro e w2 ⟨rfl, h2, k2⟩
  have H2 := hid h2
  have K2 := hid (((Kept.refl ds w).drewN nq).trans k2)
  clear h2 k2
  go_wp2
  go_ret
  exact ⟨rfl, H2.out, K2.out⟩


/-- left is too high, and its outer side is not lower than its inner one: one rotation. -/
theorem rebal_L1 (h : Lvs w ds M) {t lb : Nat} {ll lr r : Tr} (htd : t ∈ ds) (hl : (M t).left = some lb) (hr : (M t).right = root r) (hll : (M lb).left = root ll) (hlr : (M lb).right = root lr) (rl : Rep M (nd lb ll lr)) (rr : Rep M r)
    (hnd : (io (nd t (nd lb ll lr) r)).Nodup) (hsub : ∀ b, b ∈ io (nd t (nd lb ll lr) r) → b ∈ ds) (b1 : ht (nd lb ll lr) ≤ 60) (b2 : ht r ≤ 60)
    (d1 : ht (nd lb ll lr) ≤ ht r + 2) (d2 : ht r + 1 < ht (nd lb ll lr)) (d3 : ¬ ht ll < ht lr) :
    Calls Ybad.prog 24 #[.pointer (some ⟨t, 0, none⟩)] w fun e w' => e = .returned (.pointer (some ⟨lb, 0, none⟩)) ∧ Lvs w' ds (rotR M t lb) ∧ Kept ds w w' := by
  have sl : ∀ b, b ∈ io (nd lb ll lr) → b ∈ ds := fun b hb => hsub b (by simp only [io_nd, List.mem_append, List.mem_cons] at hb ⊢; rcases hb with hb | hb | hb <;> simp [hb])
  have sll : ∀ b, b ∈ io ll → b ∈ ds := fun b hb => hsub b (by simp [hb])
  have slr : ∀ b, b ∈ io lr → b ∈ ds := fun b hb => hsub b (by simp [hb])
  have sr : ∀ b, b ∈ io r → b ∈ ds := fun b hb => hsub b (by simp [hb])
  have lbd : lb ∈ ds := hsub lb (by simp)
  have rll : Rep M ll := by rw [Rep_nd] at rl; exact rl.2.2.2.1
  have rlr : Rep M lr := by rw [Rep_nd] at rl; exact rl.2.2.2.2
  have hne : t ≠ lb := ne_of_nodupL hnd
  have n1 : (M lb).left ≠ some t := by rw [hll]; exact root_neL hnd
  have L := h t htd
  have Lb := h lb lbd
  have c8 := L.left
  have c9 := L.right
  rw [hl, adr_some] at c8
  rw [hr] at c9
  have e8 := Lb.left
  have e9 := Lb.right
  rw [hll] at e8
  rw [hlr] at e9
  have hol := hid (hof_root h rl sl)
  have holl := hid (hof_root h rll sll)
  have holr := hid (hof_root h rlr slr)
  have hor := hid (hof_root h rr sr)
  rw [root_nd, adr_some] at hol
  have e1 : ht ll ≤ 60 := by simp only [ht_nd] at b1; omega
  have e2 : ht lr ≤ 60 := by simp only [ht_nd] at b1; omega
  have f1 : Fit M ds 100 (M lb).left := by rw [hll]; exact fit_root rll sll (by omega)
  have f2 : Fit M ds 100 (M lb).right := by rw [hlr]; exact fit_root rlr slr (by omega)
  have f3 : Fit M ds 100 (M t).right := by rw [hr]; exact fit_root rr sr (by omega)
  have C := hid (fun w' (h' : Lvs w' ds M) => rotR_c (w := w') h' htd lbd hne hl f1 f2 f3 n1)
  have H := hid h
  clear f1 f2 f3 n1 hl hr hll hlr rl rll rlr rr hsub sl sr sll slr L Lb h hnd
  generalize adr (root ll) = xll at *
  generalize adr (root lr) = xlr at *
  generalize adr (root r) = xr at *
  generalize ht (nd lb ll lr) = zl at *
  generalize ht ll = zll at *
  generalize ht lr = zlr at *
  generalize ht r = zr at *
  have hw : IntKind.i8.wrap ((zl : Int) - (zr : Int)) = (zl : Int) - (zr : Int) := by simp only [IntKind.wrap, IntKind.bits, IntKind.signed]; simp; omega
  have hT : 1 < (zl : Int) - (zr : Int) := by omega
  have hd : decide ((zll : Int) < (zlr : Int)) = false := by simp; omega
  go_enter Ybad.func24, Ybad.ntmps24
  go_wp2_with fail
  go_quiet (first
    | (go_at_call_of 26 xr; exact Calls.quiet_of_same (height_v xr zr hor.out))
    | (go_at_call 26; exact Calls.quiet_of_same (height_v _ zl hol.out)))
  have K1 := hid ((Kept.refl ds w).drewN nq)
  replace H : Hid (Lvs (w.drewN nq) ds M) := H
  replace c8 : (w.drewN nq).cell? ⟨t, 8, none⟩ = _ := c8
  replace e8 : (w.drewN nq).cell? ⟨lb, 8, none⟩ = _ := e8
  replace e9 : (w.drewN nq).cell? ⟨lb, 9, none⟩ = _ := e9
  replace holl : Hid (Hof (w.drewN nq) xll zll) := holl
  replace holr : Hid (Hof (w.drewN nq) xlr zlr) := holr
  clear c9 hor hol
  generalize w.drewN nq = w1 at *
  go_wp2_with fail
  go_quiet (first
    | (go_at_call_of 26 xll; exact Calls.quiet_of_same (height_v xll zll holl.out))
    | (go_at_call_of 26 xlr; exact Calls.quiet_of_same (height_v xlr zlr holr.out)))
  clear c8 e8 e9
  go_wp2_with fail
  refine (C.out _ (H.out.drewN _)).mono ?_
  rintro e w2 ⟨rfl, h2, k2⟩
  have H2 := hid h2
  have K2 := hid ((K1.out.drewN nq).trans k2)
  clear h2 k2 C H K1
  go_wp2
  go_ret
  exact ⟨rfl, H2.out, K2.out⟩

/-- right is too high, and its outer side is not lower than its inner one: one rotation. -/
theorem rebal_R1 (h : Lvs w ds M) {t lb : Nat} {ll lr r : Tr} (htd : t ∈ ds) (hl : (M t).right = some lb) (hr : (M t).left = root r) (hll : (M lb).right = root ll) (hlr : (M lb).left = root lr) (rl : Rep M (nd lb lr ll)) (rr : Rep M r)
    (hnd : (io (nd t r (nd lb lr ll))).Nodup) (hsub : ∀ b, b ∈ io (nd t r (nd lb lr ll)) → b ∈ ds) (b1 : ht (nd lb lr ll) ≤ 60) (b2 : ht r ≤ 60)
    (d1 : ht (nd lb lr ll) ≤ ht r + 2) (d2 : ht r + 1 < ht (nd lb lr ll)) (d3 : ¬ ht ll < ht lr) :
    Calls Ybad.prog 24 #[.pointer (some ⟨t, 0, none⟩)] w fun e w' => e = .returned (.pointer (some ⟨lb, 0, none⟩)) ∧ Lvs w' ds (rotL M t lb) ∧ Kept ds w w' := by
  have sl : ∀ b, b ∈ io (nd lb lr ll) → b ∈ ds := fun b hb => hsub b (by simp only [io_nd, List.mem_append, List.mem_cons] at hb ⊢; rcases hb with hb | hb | hb <;> simp [hb])
  have sll : ∀ b, b ∈ io ll → b ∈ ds := fun b hb => hsub b (by simp [hb])
  have slr : ∀ b, b ∈ io lr → b ∈ ds := fun b hb => hsub b (by simp [hb])
  have sr : ∀ b, b ∈ io r → b ∈ ds := fun b hb => hsub b (by simp [hb])
  have lbd : lb ∈ ds := hsub lb (by simp)
  have rll : Rep M ll := by rw [Rep_nd] at rl; exact rl.2.2.2.2
  have rlr : Rep M lr := by rw [Rep_nd] at rl; exact rl.2.2.2.1
  have hne : t ≠ lb := ne_of_nodupR hnd
  have n1 : (M lb).right ≠ some t := by rw [hll]; exact root_neR hnd
  have L := h t htd
  have Lb := h lb lbd
  have c8 := L.right
  have c9 := L.left
  rw [hl, adr_some] at c8
  rw [hr] at c9
  have e8 := Lb.right
  have e9 := Lb.left
  rw [hll] at e8
  rw [hlr] at e9
  have hol := hid (hof_root h rl sl)
  have holl := hid (hof_root h rll sll)
  have holr := hid (hof_root h rlr slr)
  have hor := hid (hof_root h rr sr)
  rw [root_nd, adr_some] at hol
  have e1 : ht ll ≤ 60 := by simp only [ht_nd] at b1; omega
  have e2 : ht lr ≤ 60 := by simp only [ht_nd] at b1; omega
  have f1 : Fit M ds 100 (M lb).right := by rw [hll]; exact fit_root rll sll (by omega)
  have f2 : Fit M ds 100 (M lb).left := by rw [hlr]; exact fit_root rlr slr (by omega)
  have f3 : Fit M ds 100 (M t).left := by rw [hr]; exact fit_root rr sr (by omega)
  have C := hid (fun w' (h' : Lvs w' ds M) => rotL_c (w := w') h' htd lbd hne hl f1 f2 f3 n1)
  have H := hid h
  clear f1 f2 f3 n1 hl hr hll hlr rl rll rlr rr hsub sl sr sll slr L Lb h hnd
  generalize adr (root ll) = xll at *
  generalize adr (root lr) = xlr at *
  generalize adr (root r) = xr at *
  generalize ht (nd lb lr ll) = zl at *
  generalize ht ll = zll at *
  generalize ht lr = zlr at *
  generalize ht r = zr at *
  have hw : IntKind.i8.wrap ((zr : Int) - (zl : Int)) = (zr : Int) - (zl : Int) := by simp only [IntKind.wrap, IntKind.bits, IntKind.signed]; simp; omega
  have hT : (zr : Int) - (zl : Int) < -1 := by omega
  have hd : decide ((zll : Int) < (zlr : Int)) = false := by simp; omega
  go_enter Ybad.func24, Ybad.ntmps24
  go_wp2_with fail
  go_quiet (first
    | (go_at_call_of 26 xr; exact Calls.quiet_of_same (height_v xr zr hor.out))
    | (go_at_call 26; exact Calls.quiet_of_same (height_v _ zl hol.out)))
  have K1 := hid ((Kept.refl ds w).drewN nq)
  replace H : Hid (Lvs (w.drewN nq) ds M) := H
  replace c8 : (w.drewN nq).cell? ⟨t, 9, none⟩ = _ := c8
  replace e8 : (w.drewN nq).cell? ⟨lb, 9, none⟩ = _ := e8
  replace e9 : (w.drewN nq).cell? ⟨lb, 8, none⟩ = _ := e9
  replace holl : Hid (Hof (w.drewN nq) xll zll) := holl
  replace holr : Hid (Hof (w.drewN nq) xlr zlr) := holr
  clear c9 hor hol
  generalize w.drewN nq = w1 at *
  go_wp2_with fail
  go_quiet (first
    | (go_at_call_of 26 xll; exact Calls.quiet_of_same (height_v xll zll holl.out))
    | (go_at_call_of 26 xlr; exact Calls.quiet_of_same (height_v xlr zlr holr.out)))
  clear c8 e8 e9
  go_wp2_with fail
  refine (C.out _ (H.out.drewN _)).mono ?_
  rintro e w2 ⟨rfl, h2, k2⟩
  have H2 := hid h2
  have K2 := hid ((K1.out.drewN nq).trans k2)
  clear h2 k2 C H K1
  go_wp2
  go_ret
  exact ⟨rfl, H2.out, K2.out⟩

theorem nodup2L {t lb m : Nat} {ll x y r : Tr} (h : (io (nd t (nd lb ll (nd m x y)) r)).Nodup) :
    t ≠ lb ∧ t ≠ m ∧ lb ≠ m ∧ t ∉ io ll ∧ t ∉ io x ∧ t ∉ io y ∧ t ∉ io r ∧ lb ∉ io ll ∧ lb ∉ io x ∧ lb ∉ io y ∧ lb ∉ io r ∧ m ∉ io ll ∧ m ∉ io x ∧ m ∉ io y ∧ m ∉ io r ∧ (io (nd lb ll (nd m x y))).Nodup ∧ (io (nd t (nd m (nd lb ll x) y) r)).Nodup := by
  have e : ∀ b, b ∈ io (nd t (nd lb ll (nd m x y)) r) → True := fun _ _ => trivial
  simp only [io_nd, List.append_assoc, List.cons_append, List.nodup_append, List.nodup_cons, List.mem_append, List.mem_cons] at h ⊢
  grind

theorem nodup2R {t lb m : Nat} {ll x y r : Tr} (h : (io (nd t r (nd lb (nd m y x) ll))).Nodup) :
    t ≠ lb ∧ t ≠ m ∧ lb ≠ m ∧ t ∉ io ll ∧ t ∉ io x ∧ t ∉ io y ∧ t ∉ io r ∧ lb ∉ io ll ∧ lb ∉ io x ∧ lb ∉ io y ∧ lb ∉ io r ∧ m ∉ io ll ∧ m ∉ io x ∧ m ∉ io y ∧ m ∉ io r ∧ (io (nd lb (nd m y x) ll)).Nodup ∧ (io (nd t r (nd m y (nd lb x ll)))).Nodup := by
  have e : ∀ b, b ∈ io (nd t r (nd lb (nd m y x) ll)) → True := fun _ _ => trivial
  simp only [io_nd, List.append_assoc, List.cons_append, List.nodup_append, List.nodup_cons, List.mem_append, List.mem_cons] at h ⊢
  grind

/-- left is too high, and its inner side is the higher one: two rotations. -/
theorem rebal_L2 (h : Lvs w ds M) {t lb m : Nat} {ll x y r : Tr} (htd : t ∈ ds) (hl : (M t).left = some lb) (hr : (M t).right = root r) (rl : Rep M (nd lb ll (nd m x y))) (rr : Rep M r)
    (hnd : (io (nd t (nd lb ll (nd m x y)) r)).Nodup) (hsub : ∀ b, b ∈ io (nd t (nd lb ll (nd m x y)) r) → b ∈ ds) (b1 : ht (nd lb ll (nd m x y)) ≤ 60) (b2 : ht r ≤ 60)
    (d1 : ht (nd lb ll (nd m x y)) ≤ ht r + 2) (d2 : ht r + 1 < ht (nd lb ll (nd m x y))) (d3 : ht ll < ht (nd m x y)) :
    Calls Ybad.prog 24 #[.pointer (some ⟨t, 0, none⟩)] w fun e w' => e = .returned (.pointer (some ⟨m, 0, none⟩)) ∧ ∃ M', Lvs w' ds M' ∧ Kept ds w w' ∧ Rep M' (nd m (nd lb ll x) (nd t y r)) ∧ Only M M' (io (nd t (nd lb ll (nd m x y)) r)) := by
  have sl : ∀ b, b ∈ io (nd lb ll (nd m x y)) → b ∈ ds := fun b hb => hsub b (by simp only [io_nd, List.mem_append, List.mem_cons] at hb ⊢; rcases hb with hb | hb | hb | hb | hb <;> simp [hb])
  have sll : ∀ b, b ∈ io ll → b ∈ ds := fun b hb => hsub b (by simp [hb])
  have slr : ∀ b, b ∈ io (nd m x y) → b ∈ ds := fun b hb => hsub b (by simp only [io_nd, List.mem_append, List.mem_cons] at hb ⊢; rcases hb with hb | hb | hb <;> simp [hb])
  have sx : ∀ b, b ∈ io x → b ∈ ds := fun b hb => hsub b (by simp [hb])
  have sy : ∀ b, b ∈ io y → b ∈ ds := fun b hb => hsub b (by simp [hb])
  have sr : ∀ b, b ∈ io r → b ∈ ds := fun b hb => hsub b (by simp [hb])
  have lbd : lb ∈ ds := hsub lb (by simp)
  have md : m ∈ ds := hsub m (by simp)
  have rl0 := rl
  rw [Rep_nd] at rl
  obtain ⟨q1, q2, q3, q4, q5⟩ := rl
  have hll : (M lb).left = root ll := q1
  have hlr : (M lb).right = some m := q2
  have rll : Rep M ll := q4
  have rlr : Rep M (nd m x y) := q5
  have rlr0 := rlr
  rw [Rep_nd] at rlr
  obtain ⟨p1, p2, p3, p4, p5⟩ := rlr
  have hmx : (M m).left = root x := p1
  have hmy : (M m).right = root y := p2
  have rx : Rep M x := p4
  have ry : Rep M y := p5
  have nod := nodup2L hnd
  obtain ⟨t_lb, t_m, lb_m, t_ll, t_x, t_y, t_r, lb_ll, lb_x, lb_y, lb_r, m_ll, m_x, m_y, m_r, nd1, nd2⟩ := nod
  have e1 : ht ll ≤ 60 := by simp only [ht_nd] at b1; omega
  have e2 : ht x ≤ 60 := by simp only [ht_nd] at b1; omega
  have e3 : ht y ≤ 60 := by simp only [ht_nd] at b1; omega
  -- the first rotation
  have g1 : Fit M ds 100 (M m).right := by rw [hmy]; exact fit_root ry sy (by omega)
  have g2 : Fit M ds 100 (M m).left := by rw [hmx]; exact fit_root rx sx (by omega)
  have g3 : Fit M ds 100 (M lb).left := by rw [hll]; exact fit_root rll sll (by omega)
  have n1 : (M m).right ≠ some lb := by rw [hmy]; exact fun e => lb_y (root_mem e)
  have C1 := hid (fun w' (h' : Lvs w' ds M) => rotL_c (w := w') h' lbd md lb_m hlr g1 g2 g3 n1)
  obtain ⟨R1, O1⟩ := rotL_rep (M := M) (t := lb) (rb := m) (l := ll) (rl := x) (rr := y) hlr hll hmx hmy rx ry rll nd1
  have R1' := R1
  rw [Rep_nd] at R1'
  obtain ⟨s1, s2, s3, s4, s5⟩ := R1'
  have M1t : rotL M lb m t = M t := (O1 t).1 (by simp [t_lb, t_m])
  -- the store
  obtain ⟨M2, hM2⟩ : ∃ M2, M2 = setL (rotL M lb m) t (some m) := ⟨_, rfl⟩
  have keep : ∀ T : Tr, Rep (rotL M lb m) T → t ∉ io T → Rep M2 T := fun T hT hn => by rw [hM2]; exact hT.same (fun b hb => upd_other _ _ _ _ (fun e => hn (e ▸ hb)))
  have keepM : ∀ T : Tr, Rep M T → t ∉ io T → lb ∉ io T → m ∉ io T → Rep M2 T := fun T hT h1 h2 h3 => keep T (hT.same (fun b hb => (O1 b).1 (by
    simp only [List.mem_cons, List.not_mem_nil, or_false, not_or]
    exact ⟨fun e => h2 (e ▸ hb), fun e => h3 (e ▸ hb)⟩))) h1
  have t_in : t ∉ io (nd lb ll x) := by
    simp only [io_nd, List.mem_append, List.mem_cons, not_or]
    exact ⟨t_ll, t_lb, t_x⟩
  have r1 : Rep M2 (nd lb ll x) := keep _ s4 t_in
  have r2 : Rep M2 y := keep _ s5 t_y
  have r3 : Rep M2 r := keepM r rr t_r lb_r m_r
  have M2t : M2 t = { M t with left := some m } := by rw [hM2]; unfold setL; rw [upd_same, M1t]
  have M2m : M2 m = rotL M lb m m := by rw [hM2]; unfold setL; rw [upd_other _ _ _ _ (fun e => t_m e.symm)]
  have z1 : (M2 t).left = some m := by rw [M2t]
  have z2 : (M2 t).right = root r := by rw [M2t]; exact hr
  have z3 : (M2 m).left = root (nd lb ll x) := by rw [M2m]; exact s1
  have z4 : (M2 m).right = root y := by rw [M2m]; exact s2
  have k1 : Fit M2 ds 100 (M2 m).left := by rw [z3]; exact fit_root r1 (fun b hb => sl b (by simp only [io_nd, List.mem_append, List.mem_cons] at hb ⊢; rcases hb with hb | hb | hb <;> simp [hb])) (by simp only [ht_nd]; omega)
  have k2 : Fit M2 ds 100 (M2 m).right := by rw [z4]; exact fit_root r2 sy (by omega)
  have k3 : Fit M2 ds 100 (M2 t).right := by rw [z2]; exact fit_root r3 sr (by omega)
  have n2 : (M2 m).left ≠ some t := by rw [z3, root_nd]; intro e; simp at e; exact t_lb e.symm
  have C2 := hid (fun w' (h' : Lvs w' ds M2) => rotR_c (w := w') h' htd md t_m z1 k1 k2 k3 n2)
  obtain ⟨R2, O2⟩ := rotR_rep (M := M2) (t := t) (lb := m) (ll := nd lb ll x) (lr := y) (r := r) z1 z2 z3 z4 r1 r2 r3 nd2
  have O12 : Only M (rotR M2 t m) (io (nd t (nd lb ll (nd m x y)) r)) := by
    have a1 : Only M (rotL M lb m) (io (nd t (nd lb ll (nd m x y)) r)) := O1.mono (by simp)
    have a2 : Only (rotL M lb m) M2 (io (nd t (nd lb ll (nd m x y)) r)) := by rw [hM2]; exact (setL_only _ t _).mono (by simp)
    have a3 : Only M2 (rotR M2 t m) (io (nd t (nd lb ll (nd m x y)) r)) := O2.mono (by simp)
    exact a1.trans (a2.trans a3)
  -- the walk
  have L := h t htd
  have Lb := h lb lbd
  have c8 := L.left
  have c9 := L.right
  rw [hl, adr_some] at c8
  rw [hr] at c9
  have e8 := Lb.left
  have e9 := Lb.right
  rw [hll] at e8
  rw [hlr, adr_some] at e9
  have hol := hid (hof_root h rl0 sl)
  have holl := hid (hof_root h rll sll)
  have holr := hid (hof_root h rlr0 slr)
  have hor := hid (hof_root h rr sr)
  rw [root_nd, adr_some] at hol holr
  have H := hid h
  have ST := hid (fun w' (h' : Lvs w' ds (rotL M lb m)) => (⟨(h' t htd).left, (h' t htd).free 8, (by have := h'.set htd 8 (.pointer (some ⟨m, 0, none⟩)) (v' := { rotL M lb m t with left := some m }) rfl; rw [hM2]; exact this)⟩ : w'.cell? ⟨t, 8, none⟩ = _ ∧ w'.frozen? ⟨t, 8, none⟩ = false ∧ Lvs (w'.setCell ⟨t, 8, none⟩ (.pointer (some ⟨m, 0, none⟩))) ds M2))
  rw [M1t, hl, adr_some] at ST
  refine Calls.mono ?_ (fun e w' (hw : e = .returned (.pointer (some ⟨m, 0, none⟩)) ∧ Lvs w' ds (rotR M2 t m) ∧ Kept ds w w') => ⟨hw.1, _, hw.2.1, hw.2.2, R2, O12⟩)
  clear R2 O12 O2 k1 k2 k3 n2 z1 z2 z3 z4 M2t M2m r1 r2 r3 keep keepM M1t R1 O1 g1 g2 g3 n1 rx ry hmx hmy p1 p2 p3 p4 p5 q1 q2 q3 q4 q5 s1 s2 s3 s4 s5 rlr0 rl0 rll rr hll hlr hl hr L Lb h hsub sl sll slr sx sy sr hM2 hnd nd1 nd2
  clear t_ll t_x t_y t_r lb_ll lb_x lb_y lb_r m_ll m_x m_y m_r t_in
  generalize adr (root ll) = xll at *
  generalize adr (root r) = xr at *
  generalize ht (nd lb ll (nd m x y)) = zl at *
  generalize ht (nd m x y) = zlr at *
  generalize ht ll = zll at *
  generalize ht r = zr at *
  have hw : IntKind.i8.wrap ((zl : Int) - (zr : Int)) = (zl : Int) - (zr : Int) := by simp only [IntKind.wrap, IntKind.bits, IntKind.signed]; simp; omega
  have hT : 1 < (zl : Int) - (zr : Int) := by omega
  have hd : decide ((zll : Int) < (zlr : Int)) = true := by simp; omega
  go_enter Ybad.func24, Ybad.ntmps24
  go_wp2_with fail
  go_quiet (first
    | (go_at_call_of 26 xr; exact Calls.quiet_of_same (height_v xr zr hor.out))
    | (go_at_call 26; exact Calls.quiet_of_same (height_v _ zl hol.out)))
  have K1 := hid ((Kept.refl ds w).drewN nq)
  replace H : Hid (Lvs (w.drewN nq) ds M) := H
  replace c8 : (w.drewN nq).cell? ⟨t, 8, none⟩ = _ := c8
  replace e8 : (w.drewN nq).cell? ⟨lb, 8, none⟩ = _ := e8
  replace e9 : (w.drewN nq).cell? ⟨lb, 9, none⟩ = _ := e9
  replace holl : Hid (Hof (w.drewN nq) xll zll) := holl
  replace holr : Hid (Hof (w.drewN nq) (some ⟨m, 0, none⟩) zlr) := holr
  clear c9 hor hol
  generalize w.drewN nq = w1 at *
  go_wp2_with fail
  go_quiet (first
    | (go_at_call_of 26 xll; exact Calls.quiet_of_same (height_v xll zll holl.out))
    | (go_at_call 26; exact Calls.quiet_of_same (height_v _ zlr holr.out)))
  clear e8 e9 holl holr
  replace K1 := hid (K1.out.drewN nq)
  replace H : Hid (Lvs (w1.drewN nq) ds M) := H
  replace c8 : (w1.drewN nq).cell? ⟨t, 8, none⟩ = _ := c8
  generalize w1.drewN nq = w2 at *
  go_wp2_with fail
  refine (C1.out _ H.out).mono ?_
  rintro e w3 ⟨rfl, h3, k3⟩
  replace K1 := hid (K1.out.trans k3)
  obtain ⟨c3, f3, h4⟩ := ST.out _ h3
  replace K1 := hid (K1.out.set htd 8 (.pointer (some ⟨m, 0, none⟩)))
  have H4 := hid h4
  clear h3 k3 h4 H C1 ST c8
  go_wp2_with fail
  refine (C2.out _ H4.out).mono ?_
  rintro e w4 ⟨rfl, h5, k5⟩
  have H5 := hid h5
  replace K1 := hid (K1.out.trans k5)
  clear h5 k5 C2 H4
  go_wp2
  go_ret
  exact ⟨rfl, H5.out, K1.out⟩

/-- right is too high, and its inner side is the higher one: two rotations. -/
theorem rebal_R2 (h : Lvs w ds M) {t lb m : Nat} {ll x y r : Tr} (htd : t ∈ ds) (hl : (M t).right = some lb) (hr : (M t).left = root r) (rl : Rep M (nd lb (nd m y x) ll)) (rr : Rep M r)
    (hnd : (io (nd t r (nd lb (nd m y x) ll))).Nodup) (hsub : ∀ b, b ∈ io (nd t r (nd lb (nd m y x) ll)) → b ∈ ds) (b1 : ht (nd lb (nd m y x) ll) ≤ 60) (b2 : ht r ≤ 60)
    (d1 : ht (nd lb (nd m y x) ll) ≤ ht r + 2) (d2 : ht r + 1 < ht (nd lb (nd m y x) ll)) (d3 : ht ll < ht (nd m y x)) :
    Calls Ybad.prog 24 #[.pointer (some ⟨t, 0, none⟩)] w fun e w' => e = .returned (.pointer (some ⟨m, 0, none⟩)) ∧ ∃ M', Lvs w' ds M' ∧ Kept ds w w' ∧ Rep M' (nd m (nd t r y) (nd lb x ll)) ∧ Only M M' (io (nd t r (nd lb (nd m y x) ll))) := by
  have sl : ∀ b, b ∈ io (nd lb (nd m y x) ll) → b ∈ ds := fun b hb => hsub b (by simp only [io_nd, List.mem_append, List.mem_cons] at hb ⊢; rcases hb with (hb | hb | hb) | hb | hb <;> simp [hb])
  have sll : ∀ b, b ∈ io ll → b ∈ ds := fun b hb => hsub b (by simp [hb])
  have slr : ∀ b, b ∈ io (nd m y x) → b ∈ ds := fun b hb => hsub b (by simp only [io_nd, List.mem_append, List.mem_cons] at hb ⊢; rcases hb with hb | hb | hb <;> simp [hb])
  have sx : ∀ b, b ∈ io x → b ∈ ds := fun b hb => hsub b (by simp [hb])
  have sy : ∀ b, b ∈ io y → b ∈ ds := fun b hb => hsub b (by simp [hb])
  have sr : ∀ b, b ∈ io r → b ∈ ds := fun b hb => hsub b (by simp [hb])
  have lbd : lb ∈ ds := hsub lb (by simp)
  have md : m ∈ ds := hsub m (by simp)
  have rl0 := rl
  rw [Rep_nd] at rl
  obtain ⟨q1, q2, q3, q4, q5⟩ := rl
  have hll : (M lb).right = root ll := q2
  have hlr : (M lb).left = some m := q1
  have rll : Rep M ll := q5
  have rlr : Rep M (nd m y x) := q4
  have rlr0 := rlr
  rw [Rep_nd] at rlr
  obtain ⟨p1, p2, p3, p4, p5⟩ := rlr
  have hmx : (M m).right = root x := p2
  have hmy : (M m).left = root y := p1
  have rx : Rep M x := p5
  have ry : Rep M y := p4
  have nod := nodup2R hnd
  obtain ⟨t_lb, t_m, lb_m, t_ll, t_x, t_y, t_r, lb_ll, lb_x, lb_y, lb_r, m_ll, m_x, m_y, m_r, nd1, nd2⟩ := nod
  have e1 : ht ll ≤ 60 := by simp only [ht_nd] at b1; omega
  have e2 : ht x ≤ 60 := by simp only [ht_nd] at b1; omega
  have e3 : ht y ≤ 60 := by simp only [ht_nd] at b1; omega
  -- the first rotation
  have g1 : Fit M ds 100 (M m).left := by rw [hmy]; exact fit_root ry sy (by omega)
  have g2 : Fit M ds 100 (M m).right := by rw [hmx]; exact fit_root rx sx (by omega)
  have g3 : Fit M ds 100 (M lb).right := by rw [hll]; exact fit_root rll sll (by omega)
  have n1 : (M m).left ≠ some lb := by rw [hmy]; exact fun e => lb_y (root_mem e)
  have C1 := hid (fun w' (h' : Lvs w' ds M) => rotR_c (w := w') h' lbd md lb_m hlr g1 g2 g3 n1)
  obtain ⟨R1, O1⟩ := rotR_rep (M := M) (t := lb) (lb := m) (ll := y) (lr := x) (r := ll) hlr hll hmy hmx ry rx rll nd1
  have R1' := R1
  rw [Rep_nd] at R1'
  obtain ⟨s1, s2, s3, s4, s5⟩ := R1'
  have M1t : rotR M lb m t = M t := (O1 t).1 (by simp [t_lb, t_m])
  -- the store
  obtain ⟨M2, hM2⟩ : ∃ M2, M2 = setR (rotR M lb m) t (some m) := ⟨_, rfl⟩
  have keep : ∀ T : Tr, Rep (rotR M lb m) T → t ∉ io T → Rep M2 T := fun T hT hn => by rw [hM2]; exact hT.same (fun b hb => upd_other _ _ _ _ (fun e => hn (e ▸ hb)))
  have keepM : ∀ T : Tr, Rep M T → t ∉ io T → lb ∉ io T → m ∉ io T → Rep M2 T := fun T hT h1 h2 h3 => keep T (hT.same (fun b hb => (O1 b).1 (by
    simp only [List.mem_cons, List.not_mem_nil, or_false, not_or]
    exact ⟨fun e => h2 (e ▸ hb), fun e => h3 (e ▸ hb)⟩))) h1
  have t_in : t ∉ io (nd lb x ll) := by
    simp only [io_nd, List.mem_append, List.mem_cons, not_or]
    exact ⟨t_x, t_lb, t_ll⟩
  have r1 : Rep M2 (nd lb x ll) := keep _ s5 t_in
  have r2 : Rep M2 y := keep _ s4 t_y
  have r3 : Rep M2 r := keepM r rr t_r lb_r m_r
  have M2t : M2 t = { M t with right := some m } := by rw [hM2]; unfold setR; rw [upd_same, M1t]
  have M2m : M2 m = rotR M lb m m := by rw [hM2]; unfold setR; rw [upd_other _ _ _ _ (fun e => t_m e.symm)]
  have z1 : (M2 t).right = some m := by rw [M2t]
  have z2 : (M2 t).left = root r := by rw [M2t]; exact hr
  have z3 : (M2 m).right = root (nd lb x ll) := by rw [M2m]; exact s2
  have z4 : (M2 m).left = root y := by rw [M2m]; exact s1
  have k1 : Fit M2 ds 100 (M2 m).right := by rw [z3]; exact fit_root r1 (fun b hb => sl b (by simp only [io_nd, List.mem_append, List.mem_cons] at hb ⊢; rcases hb with hb | hb | hb <;> simp [hb])) (by simp only [ht_nd]; omega)
  have k2 : Fit M2 ds 100 (M2 m).left := by rw [z4]; exact fit_root r2 sy (by omega)
  have k3 : Fit M2 ds 100 (M2 t).left := by rw [z2]; exact fit_root r3 sr (by omega)
  have n2 : (M2 m).right ≠ some t := by rw [z3, root_nd]; intro e; simp at e; exact t_lb e.symm
  have C2 := hid (fun w' (h' : Lvs w' ds M2) => rotL_c (w := w') h' htd md t_m z1 k1 k2 k3 n2)
  obtain ⟨R2, O2⟩ := rotL_rep (M := M2) (t := t) (rb := m) (l := r) (rl := y) (rr := nd lb x ll) z1 z2 z4 z3 r2 r1 r3 nd2
  have O12 : Only M (rotL M2 t m) (io (nd t r (nd lb (nd m y x) ll))) := by
    have a1 : Only M (rotR M lb m) (io (nd t r (nd lb (nd m y x) ll))) := O1.mono (by simp)
    have a2 : Only (rotR M lb m) M2 (io (nd t r (nd lb (nd m y x) ll))) := by rw [hM2]; exact (setR_only _ t _).mono (by simp)
    have a3 : Only M2 (rotL M2 t m) (io (nd t r (nd lb (nd m y x) ll))) := O2.mono (by simp)
    exact a1.trans (a2.trans a3)
  -- the walk
  have L := h t htd
  have Lb := h lb lbd
  have c8 := L.right
  have c9 := L.left
  rw [hl, adr_some] at c8
  rw [hr] at c9
  have e8 := Lb.right
  have e9 := Lb.left
  rw [hll] at e8
  rw [hlr, adr_some] at e9
  have hol := hid (hof_root h rl0 sl)
  have holl := hid (hof_root h rll sll)
  have holr := hid (hof_root h rlr0 slr)
  have hor := hid (hof_root h rr sr)
  rw [root_nd, adr_some] at hol holr
  have H := hid h
  have ST := hid (fun w' (h' : Lvs w' ds (rotR M lb m)) => (⟨(h' t htd).right, (h' t htd).free 9, (by have := h'.set htd 9 (.pointer (some ⟨m, 0, none⟩)) (v' := { rotR M lb m t with right := some m }) rfl; rw [hM2]; exact this)⟩ : w'.cell? ⟨t, 9, none⟩ = _ ∧ w'.frozen? ⟨t, 9, none⟩ = false ∧ Lvs (w'.setCell ⟨t, 9, none⟩ (.pointer (some ⟨m, 0, none⟩))) ds M2))
  rw [M1t, hl, adr_some] at ST
  refine Calls.mono ?_ (fun e w' (hw : e = .returned (.pointer (some ⟨m, 0, none⟩)) ∧ Lvs w' ds (rotL M2 t m) ∧ Kept ds w w') => ⟨hw.1, _, hw.2.1, hw.2.2, R2, O12⟩)
  clear R2 O12 O2 k1 k2 k3 n2 z1 z2 z3 z4 M2t M2m r1 r2 r3 keep keepM M1t R1 O1 g1 g2 g3 n1 rx ry hmx hmy p1 p2 p3 p4 p5 q1 q2 q3 q4 q5 s1 s2 s3 s4 s5 rlr0 rl0 rll rr hll hlr hl hr L Lb h hsub sl sll slr sx sy sr hM2 hnd nd1 nd2
  clear t_ll t_x t_y t_r lb_ll lb_x lb_y lb_r m_ll m_x m_y m_r t_in
  generalize adr (root ll) = xll at *
  generalize adr (root r) = xr at *
  generalize ht (nd lb (nd m y x) ll) = zl at *
  generalize ht (nd m y x) = zlr at *
  generalize ht ll = zll at *
  generalize ht r = zr at *
  have hw : IntKind.i8.wrap ((zr : Int) - (zl : Int)) = (zr : Int) - (zl : Int) := by simp only [IntKind.wrap, IntKind.bits, IntKind.signed]; simp; omega
  have hT : (zr : Int) - (zl : Int) < -1 := by omega
  have hd : decide ((zll : Int) < (zlr : Int)) = true := by simp; omega
  go_enter Ybad.func24, Ybad.ntmps24
  go_wp2_with fail
  go_quiet (first
    | (go_at_call_of 26 xr; exact Calls.quiet_of_same (height_v xr zr hor.out))
    | (go_at_call 26; exact Calls.quiet_of_same (height_v _ zl hol.out)))
  have K1 := hid ((Kept.refl ds w).drewN nq)
  replace H : Hid (Lvs (w.drewN nq) ds M) := H
  replace c8 : (w.drewN nq).cell? ⟨t, 9, none⟩ = _ := c8
  replace e8 : (w.drewN nq).cell? ⟨lb, 9, none⟩ = _ := e8
  replace e9 : (w.drewN nq).cell? ⟨lb, 8, none⟩ = _ := e9
  replace holl : Hid (Hof (w.drewN nq) xll zll) := holl
  replace holr : Hid (Hof (w.drewN nq) (some ⟨m, 0, none⟩) zlr) := holr
  clear c9 hor hol
  generalize w.drewN nq = w1 at *
  go_wp2_with fail
  go_quiet (first
    | (go_at_call_of 26 xll; exact Calls.quiet_of_same (height_v xll zll holl.out))
    | (go_at_call 26; exact Calls.quiet_of_same (height_v _ zlr holr.out)))
  clear e8 e9 holl holr
  replace K1 := hid (K1.out.drewN nq)
  replace H : Hid (Lvs (w1.drewN nq) ds M) := H
  replace c8 : (w1.drewN nq).cell? ⟨t, 9, none⟩ = _ := c8
  generalize w1.drewN nq = w2 at *
  go_wp2_with fail
  refine (C1.out _ H.out).mono ?_
  rintro e w3 ⟨rfl, h3, k3⟩
  replace K1 := hid (K1.out.trans k3)
  obtain ⟨c3, f3, h4⟩ := ST.out _ h3
  replace K1 := hid (K1.out.set htd 9 (.pointer (some ⟨m, 0, none⟩)))
  have H4 := hid h4
  clear h3 k3 h4 H C1 ST c8
  go_wp2_with fail
  refine (C2.out _ H4.out).mono ?_
  rintro e w4 ⟨rfl, h5, k5⟩
  have H5 := hid h5
  replace K1 := hid (K1.out.trans k5)
  clear h5 k5 C2 H4
  go_wp2
  go_ret
  exact ⟨rfl, H5.out, K1.out⟩

/-- REBALANCE: the level t over two balanced trees whose heights differ by two at most. -/
theorem rebal_c (h : Lvs w ds M) {t : Nat} {l r : Tr} (hl : (M t).left = root l) (hr : (M t).right = root r) (rl : Rep M l) (rr : Rep M r) (hnd : (io (nd t l r)).Nodup) (hsub : ∀ b, b ∈ io (nd t l r) → b ∈ ds) (b1 : ht l ≤ 60) (b2 : ht r ≤ 60)
    (d1 : ht l ≤ ht r + 2) (d2 : ht r ≤ ht l + 2) :
    Calls Ybad.prog 24 #[.pointer (some ⟨t, 0, none⟩)] w fun e w' => ∃ M', e = .returned (.pointer (adr (root (balT t l r)))) ∧ Lvs w' ds M' ∧ Kept ds w w' ∧ Rep M' (balT t l r) ∧ Only M M' (io (nd t l r)) := by
  have htd : t ∈ ds := hsub t (by simp)
  by_cases hA : ht r + 1 < ht l
  · cases l with
    | nil => simp [ht] at hA
    | node lb o u ll lr =>
      change (M t).left = some lb at hl
      change Rep M (nd lb ll lr) at rl
      change (io (nd t (nd lb ll lr) r)).Nodup at hnd
      change ∀ b, b ∈ io (nd t (nd lb ll lr) r) → b ∈ ds at hsub
      change ht r + 1 < ht (nd lb ll lr) at hA
      change ht (nd lb ll lr) ≤ 60 at b1
      change ht (nd lb ll lr) ≤ ht r + 2 at d1
      by_cases hB : ht ll < ht lr
      · cases lr with
        | nil => simp [ht] at hB
        | node m o' u' x y =>
          refine (rebal_L2 (x := x) (y := y) h htd hl hr rl rr hnd hsub b1 b2 d1 hA hB).mono ?_
          rintro e w' ⟨rfl, M', h1, h2, h3, h4⟩
          rw [balT_L2 t lb o u ll m o' u' x y r hA hB]
          exact ⟨M', rfl, h1, h2, h3, h4⟩
      · have rl' := rl
        rw [Rep_nd] at rl'
        refine (rebal_L1 (ll := ll) (lr := lr) h htd hl hr rl'.1 rl'.2.1 rl rr hnd hsub b1 b2 d1 hA hB).mono ?_
        rintro e w' ⟨rfl, h1, h2⟩
        obtain ⟨h3, h4⟩ := rotR_rep hl hr rl'.1 rl'.2.1 rl'.2.2.2.1 rl'.2.2.2.2 rr hnd
        rw [balT_L1 t lb o u ll lr r hA hB]
        exact ⟨_, rfl, h1, h2, h3, h4.mono (by simp [io])⟩
  · by_cases hC : ht l + 1 < ht r
    · cases r with
      | nil => simp [ht] at hC
      | node lb o u lr ll =>
        change (M t).right = some lb at hr
        change Rep M (nd lb lr ll) at rr
        change (io (nd t l (nd lb lr ll))).Nodup at hnd
        change ∀ b, b ∈ io (nd t l (nd lb lr ll)) → b ∈ ds at hsub
        change ht l + 1 < ht (nd lb lr ll) at hC
        change ht (nd lb lr ll) ≤ 60 at b2
        change ht (nd lb lr ll) ≤ ht l + 2 at d2
        change ¬ ht (nd lb lr ll) + 1 < ht l at hA
        by_cases hB : ht ll < ht lr
        · cases lr with
          | nil => simp [ht] at hB
          | node m o' u' y x =>
            refine (rebal_R2 (x := x) (y := y) h htd hr hl rr rl hnd hsub b2 b1 d2 hC hB).mono ?_
            rintro e w' ⟨rfl, M', h1, h2, h3, h4⟩
            rw [balT_R2 t lb o u ll m o' u' y x l hA hC hB]
            exact ⟨M', rfl, h1, h2, h3, h4⟩
        · have rr' := rr
          rw [Rep_nd] at rr'
          refine (rebal_R1 (ll := ll) (lr := lr) h htd hr hl rr'.2.1 rr'.1 rr rl hnd hsub b2 b1 d2 hC hB).mono ?_
          rintro e w' ⟨rfl, h1, h2⟩
          obtain ⟨h3, h4⟩ := rotL_rep hr hl rr'.1 rr'.2.1 rr'.2.2.2.1 rr'.2.2.2.2 rl hnd
          rw [balT_R1 t lb o u ll lr l hA hC hB]
          exact ⟨_, rfl, h1, h2, h3, h4.mono (by simp [io])⟩
    · refine (rebal_mid h htd hl hr rl rr hsub b1 b2 (by omega) (by omega)).mono ?_
      rintro e w' ⟨rfl, h1, h2⟩
      have hn : t ∉ io l ∧ t ∉ io r := by
        simp only [io_nd, List.nodup_append, List.nodup_cons, List.mem_cons] at hnd
        exact ⟨fun h => hnd.2.2 t h t (.inl rfl) rfl, hnd.2.1.1⟩
      refine ⟨_, ?_, h1, h2, ?_, (updH_only M t).mono (by simp)⟩
      · unfold balT; rw [if_neg hA, if_neg hC]; rfl
      · unfold balT; rw [if_neg hA, if_neg hC]; exact updH_rep hl hr rl rr hn.1 hn.2
end
end Go.Proofs.YbulkdilgDoor
