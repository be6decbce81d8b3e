import Derived.Test.YbulkdilgDoorDetach
namespace Go.Proofs.YbulkdilgDoor
open Go.RowKit
set_option linter.unusedVariables false
set_option linter.unusedSimpArgs false
set_option linter.unnecessarySimpa false

/-- The order's number: better is greater. -/
def kx (buy : Bool) (M : Nat → Lv) (x : Nat) : Int := if buy then (M x).price else -(M x).price
theorem bt_kx (buy : Bool) (M : Nat → Lv) (x y : Nat) : bt buy (M x).price (M y).price = decide (kx buy M y < kx buy M x) := by
  cases buy <;> simp [bt, kx]
def Srt (buy : Bool) (M : Nat → Lv) (S : List Nat) : Prop := S.Pairwise (fun x y => kx buy M x < kx buy M y)
theorem Srt.nodup {buy : Bool} {M : Nat → Lv} {S : List Nat} (h : Srt buy M S) : S.Nodup := List.Pairwise.imp (fun h e => by rw [e] at h; omega) h

theorem split_same {A B xs ys : List Nat} {b : Nat} (h : A ++ b :: B = xs ++ b :: ys) (h1 : b ∉ A) (h2 : b ∉ xs) : A = xs ∧ B = ys := by
  rcases List.append_eq_append_iff.1 h with ⟨a', e1, e2⟩ | ⟨c', e1, e2⟩
  · cases a' with
    | nil => simp at e1 e2; exact ⟨e1.symm, e2⟩
    | cons c r => simp at e2; exact absurd (by rw [e1, ← e2.1]; simp) h2
  · cases c' with
    | nil => simp at e1 e2; exact ⟨e1, e2.symm⟩
    | cons c r => simp at e2; exact absurd (by rw [e1, ← e2.1]; simp) h1
theorem split_other {A B xs ys : List Nat} {b l : Nat} (h : A ++ b :: B = xs ++ l :: ys) (hne : b ≠ l) :
    (∃ xs', xs = A ++ b :: xs' ∧ B = xs' ++ l :: ys) ∨ (∃ ys', ys = ys' ++ b :: B ∧ A = xs ++ l :: ys') := by
  rcases List.append_eq_append_iff.1 h with ⟨a', e1, e2⟩ | ⟨c', e1, e2⟩
  · cases a' with
    | nil => simp at e2; exact absurd e2.1 hne
    | cons c r => simp at e2; obtain ⟨rfl, rfl⟩ := e2; exact .inl ⟨r, e1, rfl⟩
  · cases c' with
    | nil => simp at e2; exact absurd e2.1.symm hne
    | cons c r => simp at e2; obtain ⟨rfl, rfl⟩ := e2; exact .inr ⟨r, rfl, e1⟩

/-- DETACH: the level l goes; all others stay in their order; l's own record is as it was. -/
theorem detach_c (buy : Bool) (sb : Nat) (ds : List Nat) (hsb : sb ∉ ds) : ∀ (T : Tr) (w : World) (M : Nat → Lv) (l : Nat) (xs ys : List Nat), Lvs w ds M → w.cell? ⟨sb, 0, none⟩ = some (.bool buy) → Rep M T → Bal T → (∀ b, b ∈ io T → b ∈ ds) →
    Srt buy M (io T) → (io T).length ≤ 4200 → io T = xs ++ l :: ys → (∀ y ys', ys = y :: ys' → xs ≠ [] → (M l).better = some y) →
    Calls Ybad.prog 22 #[.pointer (some ⟨sb, 0, none⟩), .pointer (adr (root T)), .pointer (some ⟨l, 0, none⟩)] w fun e w' => ∃ y, e = .returned (.pointer y) ∧ ∃ M' T', y = adr (root T') ∧ Lvs w' ds M' ∧ Kept ds w w' ∧ Rep M' T' ∧ Bal T' ∧ io T' = xs ++ ys ∧ ht T' ≤ ht T ∧ ht T ≤ ht T' + 1 ∧ Only M M' (xs ++ ys) := by
  intro T
  induction T with
  | nil =>
    intro w M l xs ys h cs hrep hbal hsub hsrt hlen hio hbe
    exact absurd (show ([] : List Nat) = xs ++ l :: ys from hio) (by simp)
  | node b o u L R ihL ihR =>
    intro w M l xs ys h cs hrep hbal hsub hsrt hlen hio hbe
    obtain ⟨rL, rR, rH, repL, repR⟩ := hrep
    obtain ⟨balL, balR, bd1, bd2⟩ := hbal
    have hio' : io L ++ b :: io R = xs ++ l :: ys := hio
    have hbd : b ∈ ds := hsub b (by simp [io])
    have sL : ∀ c, c ∈ io L → c ∈ ds := fun c hc => hsub c (by simp [io, hc])
    have sR : ∀ c, c ∈ io R → c ∈ ds := fun c hc => hsub c (by simp [io, hc])
    have hld : l ∈ ds := hsub l (by rw [hio]; simp)
    have nodT0 : (io L ++ b :: io R).Nodup := hsrt.nodup
    have srt0 : Srt buy M (io L ++ b :: io R) := hsrt
    have srtL : Srt buy M (io L) := (List.pairwise_append.1 srt0).1
    have srtR : Srt buy M (io R) := (List.pairwise_cons.1 (List.pairwise_append.1 srt0).2.1).2
    have nX := (List.nodup_append.1 nodT0).2.2
    have bR : b ∉ io R := (List.nodup_cons.1 (List.nodup_append.1 nodT0).2.1).1
    have bL : b ∉ io L := fun hc => nX b hc b (by simp) rfl
    have LR : ∀ c, c ∈ io L → c ∉ io R := fun c h1 h2 => nX c h1 c (by simp [h2]) rfl
    have hlen' : (io L).length + (io R).length + 1 ≤ 4200 := by simp only [io, List.length_append, List.length_cons] at hlen; omega
    have htL : ht L ≤ 25 := ht_le balL (by omega)
    have htR : ht R ≤ 25 := ht_le balR (by omega)
    have Lvb := h b hbd
    have Lvl := h l hld
    show Calls Ybad.prog 22 #[.pointer (some ⟨sb, 0, none⟩), .pointer (some ⟨b, 0, none⟩), .pointer (some ⟨l, 0, none⟩)] w _
    by_cases hbl : b = l
    · subst hbl
      obtain ⟨hA, hB⟩ := split_same hio' bL (fun hb => by
        have : (xs ++ b :: ys).Nodup := by rw [← hio']; exact nodT0
        exact (List.nodup_append.1 this).2.2 b hb b (by simp) rfl)
      have c8 := Lvb.left
      have c9 := Lvb.right
      rw [rL] at c8
      rw [rR] at c9
      cases L with
      | nil =>
        refine (detach_a sb b _ w c8 c9).mono ?_
        rintro e w' ⟨rfl, rfl⟩
        refine ⟨_, rfl, M, R, rfl, h, Kept.refl _ _, repR, balR, ?_, ?_, ?_, Only.refl _ _⟩
        · rw [← hA, ← hB]; rfl
        · simp [ht]
        · simp [ht]; omega
      | node lb o1 u1 ll lr =>
        cases R with
        | nil =>
          refine (detach_b sb b lb w c8 c9).mono ?_
          rintro e w' ⟨rfl, rfl⟩
          refine ⟨_, rfl, M, .node lb o1 u1 ll lr, rfl, h, Kept.refl _ _, repL, balL, ?_, ?_, ?_, Only.refl _ _⟩
          · rw [← hA, ← hB]; simp [io]
          · simp [ht]
          · simp [ht]; omega
        | node rb o2 u2 rl rr =>
          obtain ⟨nx, ys', hys⟩ : ∃ nx ys', ys = nx :: ys' := by
            cases ys with
            | nil => rw [io] at hB; simp at hB
            | cons a r => exact ⟨a, r, rfl⟩
          have hbet : (M b).better = some nx := hbe nx ys' hys (by rw [← hA]; simp [io])
          have hR' : io (.node rb o2 u2 rl rr) = [] ++ nx :: ys' := by rw [hB, hys]; rfl
          have hnR : nx ∈ io (.node rb o2 u2 rl rr) := by rw [hR']; simp
          have hnd : nx ∈ ds := sR nx hnR
          have hne : nx ≠ b := fun e => bR (e ▸ hnR)
          have nodR : (nx :: ys').Nodup := by have := srtR.nodup; rw [hR'] at this; exact this
          have nxy : nx ∉ ys' := (List.nodup_cons.1 nodR).1
          have ysR : ∀ c, c ∈ ys' → c ∈ io (.node rb o2 u2 rl rr) := fun c hc => by rw [hR']; simp [hc]
          have c7 := Lvb.better
          rw [hbet] at c7
          generalize hLL : (Deep.BT.node lb o1 u1 ll lr : Tr) = L at *
          have hrootL : root L = some lb := by rw [← hLL]; rfl
          have nxL : nx ∉ io L := fun hc => LR nx hc hnR
          rw [hrootL] at c8
          refine detach_n sb b lb rb nx w (fun x w' => ∃ M1 T1, x = adr (root T1) ∧ Lvs w' ds M1 ∧ Kept ds w w' ∧ Rep M1 T1 ∧ Bal T1 ∧ io T1 = ys' ∧ ht T1 ≤ ht (.node rb o2 u2 rl rr) ∧ ht (.node rb o2 u2 rl rr) ≤ ht T1 + 1 ∧ Only M M1 ys')
            (fun y w' => ∃ M' T', y = adr (root T') ∧ Lvs w' ds M' ∧ Kept ds w w' ∧ Rep M' T' ∧ Bal T' ∧ io T' = xs ++ ys ∧ ht T' ≤ ht (.node b o u L (.node rb o2 u2 rl rr)) ∧ ht (.node b o u L (.node rb o2 u2 rl rr)) ≤ ht T' + 1 ∧ Only M M' (xs ++ ys))
            c8 c9 c7 hne ?_ ?_ ?_
          · refine (ihR w M nx [] ys' h cs repR balR sR srtR (by omega) hR' (fun y ys'' _ hx => absurd rfl hx)).mono ?_
            rintro e w' ⟨y, rfl, M1, T1, e1, e2, e3, e4⟩
            exact ⟨y, rfl, M1, T1, e1, e2, e3, e4⟩
          · rintro x w' ⟨M1, T1, e1, e2, e3, e4, e5, e6, e7, e8, e9⟩
            have M1b : M1 b = M b := (e9 b).1 (fun hc => bR (ysR b hc))
            have k := (e2 b hbd).left
            rw [M1b, rL, hrootL] at k
            exact ⟨k, ⟨_, (e2 nx hnd).right⟩, (e2 nx hnd).free 9, ⟨_, (e2 nx hnd).left⟩, (e2 nx hnd).free 8⟩
          · rintro x w' ⟨M1, T1, rfl, e2, e3, e4, e5, e6, e7, e8, e9⟩
            have h2 := (e2.set hnd 9 (.pointer (adr (root T1))) (v' := { M1 nx with right := root T1 }) rfl).set hnd 8 (.pointer (some ⟨lb, 0, none⟩)) (v' := { M1 nx with right := root T1, left := some lb }) (by rw [upd_same]; rfl)
            obtain ⟨M2, hM2⟩ : ∃ M2, M2 = upd (upd M1 nx { M1 nx with right := root T1 }) nx { M1 nx with right := root T1, left := some lb } := ⟨_, rfl⟩
            rw [← hM2] at h2
            have M2o : ∀ c, c ≠ nx → M2 c = M1 c := fun c hc => by rw [hM2, upd_other _ _ _ _ hc, upd_other _ _ _ _ hc]
            have M2n : M2 nx = { M1 nx with right := root T1, left := some lb } := by rw [hM2, upd_same]
            have nT1 : nx ∉ io T1 := by rw [e6]; exact nxy
            have kL : ∀ c, c ∈ io L → M2 c = M c := fun c hc => by
              rw [M2o c (ne_of hc nxL)]
              exact (e9 c).1 (fun hc' => LR c hc (ysR c hc'))
            have kT : ∀ c, c ∈ io T1 → M2 c = M1 c := fun c hc => M2o c (ne_of hc nT1)
            have z1 : (M2 nx).left = root L := by rw [M2n, hrootL]
            have z2 : (M2 nx).right = root T1 := by rw [M2n]
            have nodT : (io (nd nx L T1)).Nodup := by
              rw [io_nd, e6]
              have e : io L ++ nx :: ys' = io L ++ io (.node rb o2 u2 rl rr) := by rw [hR']; rfl
              rw [e]
              exact (List.nodup_append.2 ⟨srtL.nodup, srtR.nodup, fun a ha c hc e => LR a ha (e ▸ hc)⟩)
            have subT : ∀ c, c ∈ io (nd nx L T1) → c ∈ ds := fun c hc => by
              simp only [io_nd, List.mem_append, List.mem_cons] at hc
              rcases hc with hc | hc | hc
              · exact sL c hc
              · rw [hc]; exact hnd
              · exact sR c (ysR c (by rw [← e6]; exact hc))
            have htT1 : ht T1 ≤ 25 := by omega
            refine (rebal_c h2 z1 z2 (repL.same kL) (e4.same kT) nodT subT (by omega) (by omega) (by omega) (by omega)).mono ?_
            rintro e w2 ⟨M3, rfl, g1, g2, g3, g4⟩
            obtain ⟨q1, q2, q3, q4⟩ := bal_balT nx L T1 balL e5 (by omega) (by omega)
            refine ⟨_, rfl, M3, balT nx L T1, rfl, g1, ((e3.set hnd 9 _).set hnd 8 _).trans g2, g3, q1, ?_, ?_, ?_, ?_⟩
            · rw [io_balT, e6, ← hA, hys]
            · have hh : ht (.node b o u L (.node rb o2 u2 rl rr)) = 1 + max (ht L) (ht (.node rb o2 u2 rl rr)) := rfl
              omega
            · have hh : ht (.node b o u L (.node rb o2 u2 rl rr)) = 1 + max (ht L) (ht (.node rb o2 u2 rl rr)) := rfl
              omega
            · have o1 : Only M M1 (xs ++ ys) := e9.mono (fun c hc => by rw [hys]; simp [hc])
              have o2 : Only M1 M2 (xs ++ ys) := fun c => by
                by_cases ec : c = nx
                · refine ⟨fun hc => absurd (by rw [ec, hys]; simp) hc, ?_⟩
                  rw [ec, M2n]; rfl
                · rw [M2o c ec]; exact ⟨fun _ => rfl, rfl⟩
              exact (o1.trans o2).trans (g4.mono (fun c hc => by rw [io_nd, e6] at hc; rw [← hA, hys]; exact hc))
    · have he : ∀ n, (binOp .eql 34 (.pointer (some ⟨b, 0, none⟩)) (.pointer (some ⟨l, 0, none⟩))).run Ybad.prog (w.drewN n) = .ok (.bool false) (w.drewN n) := fun n => by
        have := eql_ptr (w := w.drewN n) (a := b) (b := l) Lvb Lvl
        rwa [decide_eq_false hbl] at this
      have fin : ∀ (S : List Nat) (X : Tr), S = xs ++ ys → True := fun _ _ _ => trivial
      rcases split_other hio' hbl with ⟨xs', hxs, hR⟩ | ⟨ys', hys, hL⟩
      · have hlR : l ∈ io R := by rw [hR]; simp
        have kbl : kx buy M b < kx buy M l := (List.pairwise_cons.1 (List.pairwise_append.1 srt0).2.1).1 l hlR
        have hB : bt buy (M l).price (M b).price = true := by rw [bt_kx]; simpa using kbl
        have c9 := Lvb.right
        rw [rR] at c9
        have nodR : (xs' ++ l :: ys).Nodup := by rw [← hR]; exact srtR.nodup
        have inR : ∀ c, c ∈ xs' ++ ys → c ∈ io R := fun c hc => by rw [hR]; simp only [List.mem_append, List.mem_cons] at hc ⊢; rcases hc with hc | hc <;> simp [hc]
        refine detach_r buy sb b l _ _ _ w (fun x w' => ∃ M1 T1, x = adr (root T1) ∧ Lvs w' ds M1 ∧ Kept ds w w' ∧ Rep M1 T1 ∧ Bal T1 ∧ io T1 = xs' ++ ys ∧ ht T1 ≤ ht R ∧ ht R ≤ ht T1 + 1 ∧ Only M M1 (xs' ++ ys))
          (fun y w' => ∃ M' T', y = adr (root T') ∧ Lvs w' ds M' ∧ Kept ds w w' ∧ Rep M' T' ∧ Bal T' ∧ io T' = xs ++ ys ∧ ht T' ≤ ht (.node b o u L R) ∧ ht (.node b o u L R) ≤ ht T' + 1 ∧ Only M M' (xs ++ ys))
          he cs Lvl.price Lvb.price c9 hB ?_ ?_ ?_
        · intro n
          refine (ihR (w.drewN n) M l xs' ys (h.drewN n) cs repR balR sR srtR (by omega) hR (fun y ys'' e hx => hbe y ys'' e (by rw [hxs]; simp))).mono ?_
          rintro e w' ⟨y, rfl, M1, T1, e1, e2, e3, e4⟩
          exact ⟨y, rfl, M1, T1, e1, e2, ((Kept.refl ds w).drewN n).trans e3, e4⟩
        · rintro x w' ⟨M1, T1, e1, e2, e3, e4⟩
          exact ⟨⟨_, (e2 b hbd).right⟩, (e2 b hbd).free 9⟩
        · rintro x w' ⟨M1, T1, rfl, e2, e3, e4, e5, e6, e7, e8, e9⟩
          have M1b : M1 b = M b := (e9 b).1 (fun hc => bR (inR b hc))
          have h2 := e2.set hbd 9 (.pointer (adr (root T1))) (v' := { M1 b with right := root T1 }) rfl
          have bT1 : b ∉ io T1 := fun hc => bR (inR b (by rw [← e6]; exact hc))
          have kL : ∀ c, c ∈ io L → setR M1 b (root T1) c = M c := fun c hc => by
            unfold setR; rw [upd_other _ _ _ _ (ne_of hc bL)]
            exact (e9 c).1 (fun hc' => LR c hc (inR c hc'))
          have kT : ∀ c, c ∈ io T1 → setR M1 b (root T1) c = M1 c := fun c hc => by unfold setR; rw [upd_other _ _ _ _ (ne_of hc bT1)]
          have z1 : (setR M1 b (root T1) b).left = root L := by unfold setR; rw [upd_same]; show (M1 b).left = _; rw [M1b]; exact rL
          have z2 : (setR M1 b (root T1) b).right = root T1 := by unfold setR; rw [upd_same]
          have nodT : (io (nd b L T1)).Nodup := by
            rw [io_nd, e6]
            have sub : (io L ++ b :: (xs' ++ ys)).Sublist (io L ++ b :: io R) := by
              rw [hR]
              exact (List.Sublist.refl _).append (((List.Sublist.refl xs').append (List.sublist_cons_self l ys)).cons_cons b)
            exact sub.nodup nodT0
          have subT : ∀ c, c ∈ io (nd b L T1) → c ∈ ds := fun c hc => by
            simp only [io_nd, List.mem_append, List.mem_cons] at hc
            rcases hc with hc | hc | hc
            · exact sL c hc
            · rw [hc]; exact hbd
            · exact sR c (inR c (by rw [← e6]; exact hc))
          refine (rebal_c (M := setR M1 b (root T1)) h2 z1 z2 (repL.same kL) (e4.same kT) nodT subT (by omega) (by omega) (by omega) (by omega)).mono ?_
          rintro e w2 ⟨M2, rfl, g1, g2, g3, g4⟩
          obtain ⟨q1, q2, q3, q4⟩ := bal_balT b L T1 balL e5 (by omega) (by omega)
          refine ⟨_, rfl, M2, balT b L T1, rfl, g1, (e3.set hbd 9 _).trans g2, g3, q1, ?_, ?_, ?_, ?_⟩
          · rw [io_balT, e6, hxs]; simp
          · have hh : ht (.node b o u L R) = 1 + max (ht L) (ht R) := rfl
            omega
          · have hh : ht (.node b o u L R) = 1 + max (ht L) (ht R) := rfl
            omega
          · have mono : ∀ c, c ∈ io L ++ b :: (xs' ++ ys) → c ∈ xs ++ ys := fun c hc => by rw [hxs]; simpa using hc
            have o1 : Only M M1 (xs ++ ys) := e9.mono (fun c hc => mono c (by simp only [List.mem_append, List.mem_cons] at hc ⊢; rcases hc with hc | hc <;> simp [hc]))
            have o2 : Only M1 (setR M1 b (root T1)) (xs ++ ys) := (setR_only M1 b _).mono (fun c hc => mono c (by simp at hc; simp [hc]))
            exact (o1.trans o2).trans (g4.mono (fun c hc => mono c (by rw [io_nd, e6] at hc; exact hc)))
      · have hlL : l ∈ io L := by rw [hL]; simp
        have kbl : kx buy M l < kx buy M b := (List.pairwise_append.1 srt0).2.2 l hlL b (by simp)
        have hB : bt buy (M l).price (M b).price = false := by rw [bt_kx]; simp; omega
        have c9 := Lvb.left
        rw [rL] at c9
        have inL : ∀ c, c ∈ xs ++ ys' → c ∈ io L := fun c hc => by rw [hL]; simp only [List.mem_append, List.mem_cons] at hc ⊢; rcases hc with hc | hc <;> simp [hc]
        refine detach_l buy sb b l _ _ _ w (fun x w' => ∃ M1 T1, x = adr (root T1) ∧ Lvs w' ds M1 ∧ Kept ds w w' ∧ Rep M1 T1 ∧ Bal T1 ∧ io T1 = xs ++ ys' ∧ ht T1 ≤ ht L ∧ ht L ≤ ht T1 + 1 ∧ Only M M1 (xs ++ ys'))
          (fun y w' => ∃ M' T', y = adr (root T') ∧ Lvs w' ds M' ∧ Kept ds w w' ∧ Rep M' T' ∧ Bal T' ∧ io T' = xs ++ ys ∧ ht T' ≤ ht (.node b o u L R) ∧ ht (.node b o u L R) ≤ ht T' + 1 ∧ Only M M' (xs ++ ys))
          he cs Lvl.price Lvb.price c9 hB ?_ ?_ ?_
        · intro n
          refine (ihL (w.drewN n) M l xs ys' (h.drewN n) cs repL balL sL srtL (by omega) hL (fun y ys'' e hx => hbe y (ys'' ++ b :: io R) (by rw [hys, e]; rfl) hx)).mono ?_
          rintro e w' ⟨y, rfl, M1, T1, e1, e2, e3, e4⟩
          exact ⟨y, rfl, M1, T1, e1, e2, ((Kept.refl ds w).drewN n).trans e3, e4⟩
        · rintro x w' ⟨M1, T1, e1, e2, e3, e4⟩
          exact ⟨⟨_, (e2 b hbd).left⟩, (e2 b hbd).free 8⟩
        · rintro x w' ⟨M1, T1, rfl, e2, e3, e4, e5, e6, e7, e8, e9⟩
          have M1b : M1 b = M b := (e9 b).1 (fun hc => bL (inL b hc))
          have h2 := e2.set hbd 8 (.pointer (adr (root T1))) (v' := { M1 b with left := root T1 }) rfl
          have bT1 : b ∉ io T1 := fun hc => bL (inL b (by rw [← e6]; exact hc))
          have kR : ∀ c, c ∈ io R → setL M1 b (root T1) c = M c := fun c hc => by
            unfold setL; rw [upd_other _ _ _ _ (ne_of hc bR)]
            exact (e9 c).1 (fun hc' => LR c (inL c hc') hc)
          have kT : ∀ c, c ∈ io T1 → setL M1 b (root T1) c = M1 c := fun c hc => by unfold setL; rw [upd_other _ _ _ _ (ne_of hc bT1)]
          have z1 : (setL M1 b (root T1) b).right = root R := by unfold setL; rw [upd_same]; show (M1 b).right = _; rw [M1b]; exact rR
          have z2 : (setL M1 b (root T1) b).left = root T1 := by unfold setL; rw [upd_same]
          have nodT : (io (nd b T1 R)).Nodup := by
            rw [io_nd, e6]
            have sub : ((xs ++ ys') ++ b :: io R).Sublist (io L ++ b :: io R) := by
              rw [hL]
              exact ((List.Sublist.refl xs).append (List.sublist_cons_self l ys')).append (List.Sublist.refl _)
            exact sub.nodup nodT0
          have subT : ∀ c, c ∈ io (nd b T1 R) → c ∈ ds := fun c hc => by
            simp only [io_nd, List.mem_append, List.mem_cons] at hc
            rcases hc with hc | hc | hc
            · exact sL c (inL c (by rw [← e6]; exact hc))
            · rw [hc]; exact hbd
            · exact sR c hc
          refine (rebal_c (M := setL M1 b (root T1)) h2 z2 z1 (e4.same kT) (repR.same kR) nodT subT (by omega) (by omega) (by omega) (by omega)).mono ?_
          rintro e w2 ⟨M2, rfl, g1, g2, g3, g4⟩
          obtain ⟨q1, q2, q3, q4⟩ := bal_balT b T1 R e5 balR (by omega) (by omega)
          refine ⟨_, rfl, M2, balT b T1 R, rfl, g1, (e3.set hbd 8 _).trans g2, g3, q1, ?_, ?_, ?_, ?_⟩
          · rw [io_balT, e6, hys]; simp
          · have hh : ht (.node b o u L R) = 1 + max (ht L) (ht R) := rfl
            omega
          · have hh : ht (.node b o u L R) = 1 + max (ht L) (ht R) := rfl
            omega
          · have mono : ∀ c, c ∈ (xs ++ ys') ++ b :: io R → c ∈ xs ++ ys := fun c hc => by rw [hys]; simpa using hc
            have o1 : Only M M1 (xs ++ ys) := e9.mono (fun c hc => mono c (by simp only [List.mem_append, List.mem_cons] at hc ⊢; rcases hc with hc | hc <;> simp [hc]))
            have o2 : Only M1 (setL M1 b (root T1)) (xs ++ ys) := (setL_only M1 b _).mono (fun c hc => mono c (by simp at hc; simp [hc]))
            exact (o1.trans o2).trans (g4.mono (fun c hc => mono c (by rw [io_nd, e6] at hc; exact hc)))
end Go.Proofs.YbulkdilgDoor
