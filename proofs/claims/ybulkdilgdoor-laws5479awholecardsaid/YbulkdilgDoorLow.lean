import Derived.Test.YbulkdilgDoorRows
import Derived.Test.YbulkdilgDoorHeap
import Derived.WalkKit
import Derived.WalkSpells
import Derived.ProofKit
import Derived.BigQuiet
import Derived.BigRegion
import Derived.RegionTactic
import Derived.RegionCalls
import Derived.Deep.QuietTactic
import Derived.Deep.RegionWith
import Derived.Deep.RegionLaw
namespace Go.Proofs.YbulkdilgDoor
open Go.RowKit
set_option linter.unusedVariables false
set_option linter.unusedSimpArgs false
set_option linter.unnecessarySimpa false

theorem hid {p : Prop} (h : p) : Hid p := h
theorem hgt_setL (M : Nat → Lv) (b : Nat) (x p : Option Nat) : hgt (setL M b x) p = hgt M p := by
  cases p with
  | none => rfl
  | some c => unfold setL hgt upd; simp only []; split <;> simp_all
theorem hgt_setR (M : Nat → Lv) (b : Nat) (x p : Option Nat) : hgt (setR M b x) p = hgt M p := by
  cases p with
  | none => rfl
  | some c => unfold setR hgt upd; simp only []; split <;> simp_all
theorem hgt_updH_other (M : Nat → Lv) (b : Nat) (p : Option Nat) (hp : p ≠ some b) : hgt (updH M b) p = hgt M p := by
  cases p with
  | none => rfl
  | some c => unfold updH hgt; simp only []; rw [upd_other _ _ _ _ (fun e => hp (by rw [e]))]

section
variable {w : World} {ds : List Nat} {M : Nat → Lv}

theorem height_none (w : World) : Calls Ybad.prog 26 #[.pointer none] w fun e w' => e = .returned (.int .i8 0) ∧ w' = w := by
  go_enter Ybad.func26, Ybad.ntmps26
  go_wp2
  go_ret
  exact ⟨rfl, rfl⟩
theorem height_some (b : Nat) (h : Int) (w : World) (hc : w.cell? ⟨b, 10, none⟩ = some (.int .i8 h)) : Calls Ybad.prog 26 #[.pointer (some ⟨b, 0, none⟩)] w fun e w' => e = .returned (.int .i8 h) ∧ w' = w := by
  go_enter Ybad.func26, Ybad.ntmps26
  go_wp2
  go_ret
  exact ⟨rfl, rfl⟩
/-- As a contract over pointer values, for regions. -/
theorem height_v (x : Option Addr) (z : Int) (hx : (x = none ∧ z = 0) ∨ ∃ b, x = some ⟨b, 0, none⟩ ∧ w.cell? ⟨b, 10, none⟩ = some (.int .i8 z)) : Calls Ybad.prog 26 #[.pointer x] w fun e w' => e = .returned (.int .i8 z) ∧ w' = w := by
  rcases hx with ⟨rfl, rfl⟩ | ⟨b, rfl, hc⟩
  · exact height_none w
  · exact height_some b _ w hc

theorem height_c (h : Lvs w ds M) (p : Option Nat) (hp : ∀ b, p = some b → b ∈ ds) : Calls Ybad.prog 26 #[.pointer (adr p)] w fun e w' => e = .returned (.int .i8 (hgt M p)) ∧ w' = w := by
  cases p with
  | none => exact height_none w
  | some b => exact height_some b _ w (h b (hp b rfl)).height
/-- What 'height' finds behind a pointer. -/
def Hof (w : World) (x : Option Addr) (z : Int) : Prop := (x = none ∧ z = 0) ∨ ∃ b, x = some ⟨b, 0, none⟩ ∧ w.cell? ⟨b, 10, none⟩ = some (.int .i8 z)
theorem Hof.of (h : Lvs w ds M) (p : Option Nat) (hp : ∀ b, p = some b → b ∈ ds) : Hof w (adr p) (hgt M p) := by
  cases p with
  | none => exact .inl ⟨rfl, rfl⟩
  | some b => exact .inr ⟨b, rfl, (h b (hp b rfl)).height⟩

set_option maxHeartbeats 400000 in
theorem updH_w (b : Nat) (xl xr : Option Addr) (zl zr hd : Int) (c8 : w.cell? ⟨b, 8, none⟩ = some (.pointer xl)) (c9 : w.cell? ⟨b, 9, none⟩ = some (.pointer xr)) (c10 : w.cell? ⟨b, 10, none⟩ = some (.int .i8 hd)) (f10 : w.frozen? ⟨b, 10, none⟩ = false)
    (hl : Hid (Hof w xl zl)) (hr : Hid (Hof w xr zr)) (bl : 0 ≤ zl) (bl' : zl ≤ 120) (br : 0 ≤ zr) (br' : zr ≤ 120) :
    Calls Ybad.prog 29 #[.pointer (some ⟨b, 0, none⟩)] w fun e w' => e = .returned (.tuple #[]) ∧ w' = (w.setCell ⟨b, 10, none⟩ (.int .i8 (1 + max zl zr))).drew := by
  go_enter Ybad.func29, Ybad.ntmps29
  go_wp2_with fail
  go_region_with (first
    | (go_at_call_of 26 xl; refine (height_v (w := w.drew) xl zl hl.out).mono ?_; rintro e w' ⟨rfl, rfl⟩)
    | (go_at_call_of 26 xr; refine (height_v (w := w.drew) xr zr hr.out).mono ?_; rintro e w' ⟨rfl, rfl⟩))
  all_goals
    have e1 : (if zl < zr then zr else zl) = max zl zr := by split <;> omega
    try rw [e1]
    have e2 : IntKind.i8.wrap (1 + max zl zr) = 1 + max zl zr := by simp only [IntKind.wrap, IntKind.bits, IntKind.signed]; simp; omega
    try rw [e2]
    go_end0
    exact ⟨rfl, rfl⟩

/-- A pointer field leads into ds, and what it leads to has a height within bounds. -/
def Fit (M : Nat → Lv) (ds : List Nat) (z : Int) (p : Option Nat) : Prop := (∀ b, p = some b → b ∈ ds) ∧ 0 ≤ hgt M p ∧ hgt M p ≤ z

theorem updH_c (h : Lvs w ds M) {b : Nat} (hb : b ∈ ds) (hl : Fit M ds 120 (M b).left) (hr : Fit M ds 120 (M b).right) :
    Calls Ybad.prog 29 #[.pointer (some ⟨b, 0, none⟩)] w fun e w' => e = .returned (.tuple #[]) ∧ Lvs w' ds (updH M b) ∧ Kept ds w w' := by
  have L := h b hb
  refine (updH_w b _ _ _ _ _ L.left L.right L.height (L.free 10) (Hof.of h _ hl.1) (Hof.of h _ hr.1) hl.2.1 hl.2.2 hr.2.1 hr.2.2).mono ?_
  rintro e w' ⟨rfl, rfl⟩
  exact ⟨rfl, (h.set hb 10 _ (v' := { M b with height := 1 + max (hgt M (M b).left) (hgt M (M b).right) }) rfl).drew, ((Kept.refl ds w).set hb 10 _).drew⟩

set_option maxHeartbeats 400000 in
theorem rotR_c (h : Lvs w ds M) {t l : Nat} (ht : t ∈ ds) (hl : l ∈ ds) (hne : t ≠ l) (hch : (M t).left = some l) (f1 : Fit M ds 100 (M l).left) (f2 : Fit M ds 100 (M l).right) (f3 : Fit M ds 100 (M t).right) (n1 : (M l).left ≠ some t) :
    Calls Ybad.prog 28 #[.pointer (some ⟨t, 0, none⟩)] w fun e w' => e = .returned (.pointer (some ⟨l, 0, none⟩)) ∧ Lvs w' ds (rotR M t l) ∧ Kept ds w w' := by
  have Lt := h t ht
  have Ll := h l hl
  have c8 := Lt.left
  rw [hch, adr_some] at c8
  have f8 := Lt.free 8
  have d9 := Ll.right
  have g9 := Ll.free 9
  have h1 := (h.set ht 8 (.pointer (adr (M l).right)) (v' := { M t with left := (M l).right }) rfl)
  have h2 := (h1.set hl 9 (.pointer (some ⟨t, 0, none⟩)) (v' := { M l with right := some t }) (by rw [upd_other _ _ _ _ (fun e => hne e.symm)]; rfl))
  have k2 := ((Kept.refl ds w).set ht 8 (.pointer (adr (M l).right))).set hl 9 (.pointer (some ⟨t, 0, none⟩))
  have e2 : upd (upd M t { M t with left := (M l).right }) l { M l with right := some t } = setR (setL M t (M l).right) l (some t) := by
    unfold setR setL; rw [upd_other _ _ _ _ (fun e => hne e.symm)]
  rw [e2] at h2
  clear e2
  have a1 : (setR (setL M t (M l).right) l (some t) t).left = (M l).right := by unfold setR setL; rw [upd_other _ _ _ _ hne, upd_same]
  have a2 : (setR (setL M t (M l).right) l (some t) t).right = (M t).right := by unfold setR setL; rw [upd_other _ _ _ _ hne, upd_same]
  have a3 : (setR (setL M t (M l).right) l (some t) l).left = (M l).left := by unfold setR setL; rw [upd_same, upd_other _ _ _ _ (fun e => hne e.symm)]
  have a4 : (setR (setL M t (M l).right) l (some t) l).right = some t := by unfold setR setL; rw [upd_same]
  have hg : ∀ p, hgt (setR (setL M t (M l).right) l (some t)) p = hgt M p := fun p => by rw [hgt_setR, hgt_setL]
  obtain ⟨M2, hM2⟩ : ∃ M2, M2 = setR (setL M t (M l).right) l (some t) := ⟨_, rfl⟩
  rw [← hM2] at h2 a1 a2 a3 a4 hg
  have fin : rotR M t l = updH (updH M2 t) l := by rw [hM2]; rfl
  have b1 : Fit M2 ds 120 (M2 t).left := by rw [a1]; exact ⟨f2.1, by rw [hg]; exact f2.2.1, by rw [hg]; have := f2.2.2; omega⟩
  have b2 : Fit M2 ds 120 (M2 t).right := by rw [a2]; exact ⟨f3.1, by rw [hg]; exact f3.2.1, by rw [hg]; have := f3.2.2; omega⟩
  have u1 : ∀ p, p ≠ some t → hgt (updH M2 t) p = hgt M2 p := fun p hp => hgt_updH_other _ _ _ hp
  have u2 : hgt (updH M2 t) (some t) = 1 + max (hgt M2 (M2 t).left) (hgt M2 (M2 t).right) := by simp only [hgt, updH]; rw [upd_same]
  have u3 : updH M2 t l = M2 l := by unfold updH; rw [upd_other _ _ _ _ (fun e => hne e.symm)]
  have b3 : Fit (updH M2 t) ds 120 (updH M2 t l).left := by
    rw [u3, a3]
    exact ⟨f1.1, by rw [u1 _ n1, hg]; exact f1.2.1, by rw [u1 _ n1, hg]; have := f1.2.2; omega⟩
  have b4 : Fit (updH M2 t) ds 120 (updH M2 t l).right := by
    rw [u3, a4]
    refine ⟨fun b e => by cases e; exact ht, ?_, ?_⟩
    · rw [u2, a1, a2, hg, hg]; have := f2.2.1; omega
    · rw [u2, a1, a2, hg, hg]; have := f2.2.2; have := f3.2.2; omega
  clear a1 a2 a3 a4 hg u1 u2 u3 hM2
  rw [fin]
  clear fin
  have H2 := hid h2
  have K2 := hid k2
  clear h2 k2 h1 h f1 f2 f3 Lt Ll
  have hne' : ¬ t = l := hne
  go_enter Ybad.func28, Ybad.ntmps28
  go_wp2_with fail
  refine (updH_c H2.out ht b1 b2).mono ?_
  rintro e w2 ⟨rfl, h3, k3⟩
  have K3 := hid (K2.out.trans k3)
  have H3 := hid h3
  clear H2 K2 h3 k3 c8 f8 d9 g9
  go_wp2_with fail
  refine (updH_c H3.out hl b3 b4).mono ?_
  rintro e w3 ⟨rfl, h4, k4⟩
  have K4 := hid (K3.out.trans k4)
  have H4 := hid h4
  clear H3 K3 h4 k4
  go_wp2
  go_ret
  exact ⟨rfl, H4.out, K4.out⟩

set_option maxHeartbeats 400000 in
theorem rotL_c (h : Lvs w ds M) {t l : Nat} (ht : t ∈ ds) (hl : l ∈ ds) (hne : t ≠ l) (hch : (M t).right = some l) (f1 : Fit M ds 100 (M l).right) (f2 : Fit M ds 100 (M l).left) (f3 : Fit M ds 100 (M t).left) (n1 : (M l).right ≠ some t) :
    Calls Ybad.prog 27 #[.pointer (some ⟨t, 0, none⟩)] w fun e w' => e = .returned (.pointer (some ⟨l, 0, none⟩)) ∧ Lvs w' ds (rotL M t l) ∧ Kept ds w w' := by
  have Lt := h t ht
  have Ll := h l hl
  have c8 := Lt.right
  rw [hch, adr_some] at c8
  have f8 := Lt.free 9
  have d9 := Ll.left
  have g9 := Ll.free 8
  have h1 := (h.set ht 9 (.pointer (adr (M l).left)) (v' := { M t with right := (M l).left }) rfl)
  have h2 := (h1.set hl 8 (.pointer (some ⟨t, 0, none⟩)) (v' := { M l with left := some t }) (by rw [upd_other _ _ _ _ (fun e => hne e.symm)]; rfl))
  have k2 := ((Kept.refl ds w).set ht 9 (.pointer (adr (M l).left))).set hl 8 (.pointer (some ⟨t, 0, none⟩))
  have e2 : upd (upd M t { M t with right := (M l).left }) l { M l with left := some t } = setL (setR M t (M l).left) l (some t) := by
    unfold setR setL; rw [upd_other _ _ _ _ (fun e => hne e.symm)]
  rw [e2] at h2
  clear e2
  have a1 : (setL (setR M t (M l).left) l (some t) t).right = (M l).left := by unfold setR setL; rw [upd_other _ _ _ _ hne, upd_same]
  have a2 : (setL (setR M t (M l).left) l (some t) t).left = (M t).left := by unfold setR setL; rw [upd_other _ _ _ _ hne, upd_same]
  have a3 : (setL (setR M t (M l).left) l (some t) l).right = (M l).right := by unfold setR setL; rw [upd_same, upd_other _ _ _ _ (fun e => hne e.symm)]
  have a4 : (setL (setR M t (M l).left) l (some t) l).left = some t := by unfold setR setL; rw [upd_same]
  have hg : ∀ p, hgt (setL (setR M t (M l).left) l (some t)) p = hgt M p := fun p => by rw [hgt_setL, hgt_setR]
  obtain ⟨M2, hM2⟩ : ∃ M2, M2 = setL (setR M t (M l).left) l (some t) := ⟨_, rfl⟩
  rw [← hM2] at h2 a1 a2 a3 a4 hg
  have fin : rotL M t l = updH (updH M2 t) l := by rw [hM2]; rfl
  have b1 : Fit M2 ds 120 (M2 t).right := by rw [a1]; exact ⟨f2.1, by rw [hg]; exact f2.2.1, by rw [hg]; have := f2.2.2; omega⟩
  have b2 : Fit M2 ds 120 (M2 t).left := by rw [a2]; exact ⟨f3.1, by rw [hg]; exact f3.2.1, by rw [hg]; have := f3.2.2; omega⟩
  have u1 : ∀ p, p ≠ some t → hgt (updH M2 t) p = hgt M2 p := fun p hp => hgt_updH_other _ _ _ hp
  have u2 : hgt (updH M2 t) (some t) = 1 + max (hgt M2 (M2 t).left) (hgt M2 (M2 t).right) := by simp only [hgt, updH]; rw [upd_same]
  have u3 : updH M2 t l = M2 l := by unfold updH; rw [upd_other _ _ _ _ (fun e => hne e.symm)]
  have b3 : Fit (updH M2 t) ds 120 (updH M2 t l).right := by
    rw [u3, a3]
    exact ⟨f1.1, by rw [u1 _ n1, hg]; exact f1.2.1, by rw [u1 _ n1, hg]; have := f1.2.2; omega⟩
  have b4 : Fit (updH M2 t) ds 120 (updH M2 t l).left := by
    rw [u3, a4]
    refine ⟨fun b e => by cases e; exact ht, ?_, ?_⟩
    · rw [u2, a2, a1, hg, hg]; have := f2.2.1; omega
    · rw [u2, a2, a1, hg, hg]; have := f2.2.2; have := f3.2.2; omega
  clear a1 a2 a3 a4 hg u1 u2 u3 hM2
  rw [fin]
  clear fin
  have H2 := hid h2
  have K2 := hid k2
  clear h2 k2 h1 h f1 f2 f3 Lt Ll
  have hne' : ¬ t = l := hne
  go_enter Ybad.func27, Ybad.ntmps27
  go_wp2_with fail
  refine (updH_c H2.out ht b2 b1).mono ?_
  rintro e w2 ⟨rfl, h3, k3⟩
  have K3 := hid (K2.out.trans k3)
  have H3 := hid h3
  clear H2 K2 h3 k3 c8 f8 d9 g9
  go_wp2_with fail
  refine (updH_c H3.out hl b4 b3).mono ?_
  rintro e w3 ⟨rfl, h4, k4⟩
  have K4 := hid (K3.out.trans k4)
  have H4 := hid h4
  clear H3 K3 h4 k4
  go_wp2
  go_ret
  exact ⟨rfl, H4.out, K4.out⟩

end
end Go.Proofs.YbulkdilgDoor
