import Derived.Test.YbulkdilgDoorKeep
import Derived.Test.YbulkdilgDoorAdd
import Derived.Test.YbulkdilgDoorAdd2
namespace Go.Proofs.YbulkdilgDoor
open Go.RowKit
set_option maxRecDepth 100000
set_option linter.unusedVariables false
set_option linter.unusedSimpArgs false
set_option linter.unnecessarySimpa false

section
variable {w : World} {sb : Nat} {buy : Bool} {eb kb cb lim : Nat} {ds : List Nat} {M : Nat → Lv} {T : Tr} {X : Nat → Nat → Value} {P Q : Nat → Int} {cnt : Nat} {rs : List Nat}

theorem Book.close_add (h : Book w sb buy eb kb cb lim ds M T X P Q cnt rs) (hc : cnt < 1024) {p q : Int} (hX1 : X cnt 1 = .int .i64 p) (hX2 : X cnt 2 = .int .i64 q) (hX3 : X cnt 3 = .int .i64 q) (hX6 : X cnt 6 = .int .u32 ((cnt : Int) + 1)) (hq : 0 ≤ q ∧ q < 4294967296)
    {w' : World} {ds' : List Nat} {M' : Nat → Lv} {T' : Tr} {X' : Nat → Nat → Value} {K : Nat → Prop} (hKl : ∀ k, k < lim → K k) (hst : Keep K sb cb w w')
    (hsd : Side w' sb buy (some ⟨eb, 0, none⟩) ds' M' T') (hrow : Row14 w' cb X') (hup : ∀ b, b ∈ ds' → lim ≤ b)
    (x1 : ∀ j f, f ≠ 7 → f ≠ 8 → X' j f = X j f) (x2 : ∀ j, j ≠ cnt → X' j 7 = X j 7) (x3 : X' cnt 7 = .int .u32 (rf (Od P rs p).getLast?)) (x4 : ∀ j, (Od P rs p).getLast? ≠ some j → X' j 8 = X j 8) (x5 : ∀ j, (Od P rs p).getLast? = some j → X' j 8 = .int .u32 ((cnt : Int) + 1))
    (l1 : ∀ b, b ∈ io T' → (M' b).price = p → data (M' b) = (p, 0, sm Q (Od P rs p) + q, ((Od P rs p).length : Int) + 1, rf (Od P rs p ++ [cnt]).head?, (cnt : Int) + 1))
    (l2 : ∀ b, b ∈ io T' → (M' b).price ≠ p → ∃ b0, b0 ∈ io T ∧ data (M' b) = data (M b0))
    (l3 : ∃ b, b ∈ io T' ∧ (M' b).price = p) (l4 : ∀ b0, b0 ∈ io T → ∃ b, b ∈ io T' ∧ (M' b).price = (M b0).price) :
    Book w' sb buy eb kb cb lim ds' M' T' X' (upd P cnt p) (upd Q cnt q) (cnt + 1) (rs ++ [cnt]) := by
  have hcr : cnt ∉ rs := fun hm => by have := h.bnd cnt hm; omega
  obtain ⟨d1, d2, d3, d4, d5, d6⟩ := h.dis
  have hlast : ∀ j, (Od P rs p).getLast? = some j → j ∈ rs ∧ P j = p := fun j hj => Od_mem.1 (List.mem_of_getLast? hj)
  have hOcn : ∀ p', cnt ∉ Od P rs p' := fun p' hm => hcr (Od_mem.1 hm).1
  refine ⟨hsd, ?_, ?_, hrow, h.dis, hup, by omega, ?_, ?_, ?_, ?_, ?_, ?_, ?_, ?_, ?_⟩
  · obtain ⟨c, e1, e2⟩ := h.e0
    exact ⟨c, (hst.block eb (hKl eb (by omega)) (by omega) d4).trans e1, e2⟩
  · obtain ⟨c, e1, e2⟩ := h.k0
    exact ⟨c, (hst.block kb (hKl kb (by omega)) (by omega) d5).trans e1, e2⟩
  · rw [List.nodup_append]
    exact ⟨h.nod, by simp, fun a ha b hb e => by
      obtain rfl := List.mem_singleton.1 hb
      exact hcr (e ▸ ha)⟩
  · intro i hi
    rcases List.mem_append.1 hi with hi | hi
    · have := h.bnd i hi; omega
    · have := List.mem_singleton.1 hi; omega
  · intro i
    by_cases e : i = cnt
    · subst e; rw [upd_same]; exact hq
    · rw [upd_other _ _ _ _ e]; exact h.qty i
  · intro i hi
    by_cases e : i = cnt
    · subst e
      rw [upd_same, upd_same, x1 _ _ (by omega) (by omega), x1 _ _ (by omega) (by omega), x1 _ _ (by omega) (by omega), x1 _ _ (by omega) (by omega), x1 _ _ (by omega) (by omega)]
      exact ⟨hX1, hX2, hX3, hX6, by rw [h.fre i (Nat.le_refl _) hc]; simp⟩
    · obtain ⟨f1, f2, f3, f6, f13⟩ := h.fld i (by omega)
      rw [upd_other _ _ _ _ e, upd_other _ _ _ _ e, x1 _ _ (by omega) (by omega), x1 _ _ (by omega) (by omega), x1 _ _ (by omega) (by omega), x1 _ _ (by omega) (by omega), x1 _ _ (by omega) (by omega)]
      exact ⟨f1, f2, f3, f6, by rw [f13]; simp [e]⟩
  · intro i hi
    have hi1 : i ∉ rs := fun hm => hi (by simp [hm])
    have hi2 : i ≠ cnt := fun e => hi (by simp [e])
    rw [x2 i hi2, x4 i (fun e => hi1 (hlast i e).1)]
    exact h.out i hi1
  · intro i h1 h2
    rw [x1 _ _ (by omega) (by omega)]
    exact h.fre i (by omega) h2
  · intro p'
    rw [Od_push hcr]
    by_cases e : p' = p
    · subst e
      rw [if_pos rfl]
      refine (h.chn p').push ?_ x3 ?_ ?_
      · rw [List.nodup_append]
        exact ⟨h.nod.filter _, by simp, fun a ha b hb e => by
          obtain rfl := List.mem_singleton.1 hb
          exact hOcn p' (e ▸ ha)⟩
      · rw [x4 cnt (fun e => hOcn p' (List.mem_of_getLast? e))]
        exact (h.out cnt hcr).2
      · intro j hj
        exact ⟨x2 j (fun e => hOcn p' (e ▸ hj)), x4 j, x5 j⟩
    · rw [if_neg e]
      refine (h.chn p').of (fun j hj => ?_)
      exact ⟨x2 j (fun e' => hOcn p' (e' ▸ hj)), x4 j (fun e' => e ((Od_mem.1 hj).2.symm.trans (hlast j e').2))⟩
  · intro b hb
    by_cases e : (M' b).price = p
    · rw [e, Od_push hcr, if_pos rfl]
      refine ⟨by simp, ?_⟩
      rw [l1 b hb e, sm_app, sm_upd (hOcn p)]
      simp [sm, upd_same, rf]
    · rw [Od_push hcr, if_neg e]
      obtain ⟨b0, hb0, e0⟩ := l2 b hb e
      have ep : (M' b).price = (M b0).price := congrArg (fun t => t.1) e0
      rw [ep, e0, sm_upd (hOcn _)]
      exact h.lvl b0 hb0
  · intro i hi
    rcases List.mem_append.1 hi with hi | hi
    · obtain ⟨b0, hb0, e0⟩ := h.cov i hi
      obtain ⟨b, hb, e⟩ := l4 b0 hb0
      exact ⟨b, hb, by rw [e, e0]; exact (upd_other _ _ _ _ (fun e' => hcr (by rw [← e']; exact hi))).symm⟩
    · obtain rfl := List.mem_singleton.1 hi
      rw [upd_same]; exact l3

theorem Book.add (h : Book w sb buy eb kb cb lim ds M T X P Q cnt rs) {K : Nat → Prop} (hKl : ∀ k, k < lim → K k) (hKd : ∀ b, b ∈ ds → ¬ K b) (hKs : ∀ k, K k → k < w.heap.size) (hlm : lim ≤ w.heap.size) (hc : cnt < 1024) {p q : Int} (hX1 : X cnt 1 = .int .i64 p) (hX2 : X cnt 2 = .int .i64 q) (hX3 : X cnt 3 = .int .i64 q) (hX6 : X cnt 6 = .int .u32 ((cnt : Int) + 1)) (hq : 0 ≤ q ∧ q < 4294967296) :
    Calls Ybad.prog 5 #[.pointer (some ⟨sb, 0, none⟩), .pointer (some ⟨cb, cnt * 14, none⟩)] w fun e w' => e = .returned (.tuple #[]) ∧ (∃ ds' M' T' X', Book w' sb buy eb kb cb lim ds' M' T' X' (upd P cnt p) (upd Q cnt q) (cnt + 1) (rs ++ [cnt])) ∧ Keep K sb cb w w' := by
  obtain ⟨d1, d2, d3, d4, d5, d6⟩ := h.dis
  obtain ⟨xs, ys, e0, e1, C8, hcase⟩ := h.side.split p
  have hup := h.up
  have hrl := h.rlen
  have hcbo : cb ∉ ds := fun hm => by have := hup cb hm; omega
  have hcr : cnt ∉ rs := fun hm => by have := h.bnd cnt hm; omega
  have x1 := h.row.cell hc (show 1 < 14 by omega)
  rw [hX1] at x1
  have x3 := h.row.cell hc (show 3 < 14 by omega)
  rw [hX3] at x3
  have x6 := h.row.cell hc (show 6 < 14 by omega)
  rw [hX6] at x6
  have x7 := h.row.cell hc (show 7 < 14 by omega)
  have hp0 : Hp w sb (sideCells buy (root T) (io T).getLast? (some ⟨eb, 0, none⟩)) ds M cb X := ⟨h.side.blk, h.side.lvs, h.row, h.side.out, by omega, hcbo⟩
  have hsm := sm_nonneg h.qty (Od P rs p)
  have hOl : (Od P rs p).length ≤ rs.length := by unfold Od; exact List.length_filter_le _ _
  rcases hcase with ⟨b, hb, hy, hbp⟩ | ⟨hall, hno⟩
  · obtain ⟨hne, hdat⟩ := h.lvl b hb
    rw [hbp] at hne hdat
    have hbd := h.side.sub b hb
    have hLb := h.side.lvs b hbd
    have hblim := hup b hbd
    obtain ⟨t, ht⟩ : ∃ t, (Od P rs p).getLast? = some t := by
      cases hO : (Od P rs p).getLast? with
      | none => exact absurd (List.getLast?_eq_none_iff.1 hO) hne
      | some t => exact ⟨t, rfl⟩
    obtain ⟨htr, htp⟩ := Od_mem.1 (List.mem_of_getLast? ht)
    have htc := h.bnd t htr
    rw [ht] at hdat
    simp only [data, Prod.mk.injEq] at hdat
    obtain ⟨_, g1, g2, g3, g4, g5⟩ := hdat
    have c0 := hLb.price
    have c1 := hLb.at 1 (.int .u64 (M b).hi) rfl
    have c2 := hLb.at 2 (.int .u64 (M b).lo) rfl
    have c3 := hLb.at 3 (.int .i64 (M b).orders) rfl
    have c5 := hLb.at 5 (.int .u32 (M b).tail) rfl
    rw [hbp] at c0
    rw [g1] at c1
    rw [g2] at c2
    rw [g3] at c3
    rw [g5] at c5
    simp only [rf] at c5
    rw [hy] at C8
    refine (add_old sb eb kb cb (cnt * 14) (t * 14) cnt t b p q (sm Q (Od P rs p)) (Od P rs p).length _ _ w rfl (by omega) hc x1 x3 x6 x7 (h.row.cell (show t < 1024 by omega) (show 8 < 14 by omega)) h.row.free hLb.free c0 c1 c2 c3 c5
      (h.side.cell 3 _ rfl) h.ec h.kc (by omega) (by omega) (by omega) (by omega) (by omega) (by omega) (by omega) (by omega) (by omega) (by omega) (by omega) hLb.lt h.row.lt hq.1 (by omega) (by omega) (by omega) (by omega) (by omega) (hid C8)).mono ?_
    rintro e w' ⟨rfl, n, wx, hB, rfl⟩
    have hp5 := ((((hp0.drewN n).setX (i := cnt) (k := 7) (by omega) (.int .u32 ((t : Int) + 1))).setX (i := t) (k := 8) (by omega) (.int .u32 ((cnt : Int) + 1))).setL hbd 5 (.int .u32 ((cnt : Int) + 1)) (v' := { M b with tail := (cnt : Int) + 1 }) rfl).setL hbd 1 (.int .u64 0) (v' := { M b with tail := (cnt : Int) + 1, hi := 0 }) (by rw [upd_same]; rfl)
    have hp6 := hp5.setL hbd 2 (.int .u64 (sm Q (Od P rs p) + q)) (v' := { M b with tail := (cnt : Int) + 1, hi := 0, lo := sm Q (Od P rs p) + q }) (by rw [upd_same]; rfl)
    have hp7 := hp6.below (w' := wx) (by simpa [World.setCell] using hB)
    have hp8 := hp7.setL hbd 3 (.int .i64 ((Od P rs p).length + 1)) (v' := { M b with tail := (cnt : Int) + 1, hi := 0, lo := sm Q (Od P rs p) + q, orders := (Od P rs p).length + 1 }) (by rw [upd_same]; rfl)
    have st : Keep K sb cb w (wx.setCell ⟨b, 3, none⟩ (.int .i64 ((Od P rs p).length + 1))) :=
      ((((((((Keep.refl K sb cb w).drewN n).set (.inr (.inr rfl))).set (.inr (.inr rfl))).set (.inl (hKd b hbd))).set (.inl (hKd b hbd))).set (.inl (hKd b hbd))).below hB hKs).set (.inl (hKd b hbd))
    have hMo : ∀ c, c ≠ b → upd (upd (upd (upd M b { M b with tail := (cnt : Int) + 1 }) b { M b with tail := (cnt : Int) + 1, hi := 0 }) b { M b with tail := (cnt : Int) + 1, hi := 0, lo := sm Q (Od P rs p) + q }) b { M b with tail := (cnt : Int) + 1, hi := 0, lo := sm Q (Od P rs p) + q, orders := (Od P rs p).length + 1 } c = M c := fun c hc' => by
      rw [upd_other _ _ _ _ hc', upd_other _ _ _ _ hc', upd_other _ _ _ _ hc', upd_other _ _ _ _ hc']
    have hMb : upd (upd (upd (upd M b { M b with tail := (cnt : Int) + 1 }) b { M b with tail := (cnt : Int) + 1, hi := 0 }) b { M b with tail := (cnt : Int) + 1, hi := 0, lo := sm Q (Od P rs p) + q }) b { M b with tail := (cnt : Int) + 1, hi := 0, lo := sm Q (Od P rs p) + q, orders := (Od P rs p).length + 1 } b = { M b with tail := (cnt : Int) + 1, hi := 0, lo := sm Q (Od P rs p) + q, orders := (Od P rs p).length + 1 } := upd_same _ _ _
    generalize upd (upd (upd (upd M b { M b with tail := (cnt : Int) + 1 }) b { M b with tail := (cnt : Int) + 1, hi := 0 }) b { M b with tail := (cnt : Int) + 1, hi := 0, lo := sm Q (Od P rs p) + q }) b { M b with tail := (cnt : Int) + 1, hi := 0, lo := sm Q (Od P rs p) + q, orders := (Od P rs p).length + 1 } = M' at *
    have same : ∀ c, (M' c).price = (M c).price ∧ (M' c).left = (M c).left ∧ (M' c).right = (M c).right ∧ (M' c).height = (M c).height ∧ (M' c).worse = (M c).worse ∧ (M' c).better = (M c).better := fun c => by
      by_cases e : c = b
      · subst e; rw [hMb]; exact ⟨rfl, rfl, rfl, rfl, rfl, rfl⟩
      · rw [hMo c e]; exact ⟨rfl, rfl, rfl, rfl, rfl, rfl⟩
    have hsd : Side (wx.setCell ⟨b, 3, none⟩ (.int .i64 ((Od P rs p).length + 1))) sb buy (some ⟨eb, 0, none⟩) ds M' T :=
      ⟨hp8.blk, hp8.lvs, hp8.out, h.side.rep.of (fun c _ => ⟨(same c).2.1, (same c).2.2.1, (same c).2.2.2.1⟩), h.side.bal, h.side.sub, h.side.srt.of (fun c _ => (same c).1), h.side.lnk.of (fun c _ => ⟨(same c).2.2.2.2.1, (same c).2.2.2.2.2⟩)⟩
    have hct : cnt ≠ t := by omega
    refine ⟨rfl, ⟨ds, M', T, set2 (set2 X cnt 7 (.int .u32 ((t : Int) + 1))) t 8 (.int .u32 ((cnt : Int) + 1)), ?_⟩, st⟩
    refine h.close_add hc hX1 hX2 hX3 hX6 hq hKl st hsd hp8.row hup ?_ ?_ ?_ ?_ ?_ ?_ ?_ ⟨b, hb, by rw [(same b).1, hbp]⟩ (fun b0 hb0 => ⟨b0, hb0, (same b0).1⟩)
    · intro j f h7 h8
      rw [set2_other _ _ _ _ _ _ (.inr h8), set2_other _ _ _ _ _ _ (.inr h7)]
    · intro j hj
      rw [set2_other _ _ _ _ _ _ (.inr (by omega)), set2_other _ _ _ _ _ _ (.inl hj)]
    · rw [set2_other _ _ _ _ _ _ (.inr (by omega)), set2_same, ht]; rfl
    · intro j hj
      have hjt : j ≠ t := fun e => hj (by rw [ht, e])
      rw [set2_other _ _ _ _ _ _ (.inl hjt), set2_other _ _ _ _ _ _ (.inr (by omega))]
    · intro j hj
      obtain rfl : t = j := by rw [ht] at hj; exact Option.some.inj hj
      rw [set2_same]
    · intro c hc' hcp
      have hcb' : c = b := srt_inj h.side.srt c b hc' hb (by rw [← (same c).1, hcp, hbp])
      subst hcb'
      rw [hMb]
      have hhd : (Od P rs p ++ [cnt]).head? = (Od P rs p).head? := by
        cases hO : Od P rs p with
        | nil => exact absurd hO hne
        | cons x r => rfl
      simp only [data, hbp, hhd, g4]
    · intro c hc' hcp
      have hcb' : c ≠ b := fun e => hcp (by rw [e, (same b).1, hbp])
      exact ⟨c, hc', by rw [hMo c hcb']⟩
  · have hlen : (io T).length ≤ 4199 := by have := h.tlen; omega
    have hOn : Od P rs p = [] := by
      cases hO : Od P rs p with
      | nil => rfl
      | cons x r =>
        exfalso
        obtain ⟨hx1, hx2⟩ := Od_mem.1 (show x ∈ Od P rs p by rw [hO]; simp)
        obtain ⟨b, hb, e⟩ := h.cov x hx1
        exact hno b hb (e.trans hx2)
    have hyc : ys.head? = none ∨ ∃ b p', ys.head? = some b ∧ p' ≠ p ∧ w.cell? ⟨b, 0, none⟩ = some (.int .i64 p') := by
      cases hy : ys.head? with
      | none => exact .inl rfl
      | some b =>
        have hb : b ∈ io T := by rw [e0]; simp [List.mem_of_head? hy]
        exact .inr ⟨b, _, rfl, hno b hb, (h.side.lvs b (h.side.sub b hb)).price⟩
    have hlcb : ¬ w.heap.size = cb := by have := h.row.lt; omega
    have hln : w.heap.size ∉ ds := fun hm => by have := (h.side.lvs _ hm).lt; omega
    have hcbl : cb ∉ w.heap.size :: ds := by
      intro hm
      rcases List.mem_cons.1 hm with e | e
      · exact hlcb e.symm
      · exact hcbo e
    have hrow2 : ∀ k w2, Grew (sb :: ds) (w.drewN k) w2 → Row14 w2 cb X := fun k w2 hg => h.row.of (hg.block cb h.row.lt (fun hm => by
      rcases List.mem_cons.1 hm with e | e
      · omega
      · exact hcbo e))
    refine (add_new sb cb (cnt * 14) cnt w.heap.size ys.head? p q w (fun w2 => ∃ k, Ins (w.drewN k) sb buy (some ⟨eb, 0, none⟩) ds M xs ys p w2) hc x1 hlcb (fun e => hlcb e.symm) hq.1 (by omega) hyc (hid C8) (hid (fun k => (insert_c (h.side.drewN k) e0 e1 hall hlen).mono (fun e w' hw => ⟨hw.1, k, hw.2⟩))) (hid ?_)).mono ?_
    · rintro w2 ⟨k, M2, T2, hs2, hio2, hd1, hd2, hg, hsz⟩
      have r2 := hrow2 k w2 hg
      have a3 := r2.cell hc (show 3 < 14 by omega)
      rw [hX3] at a3
      have a6 := r2.cell hc (show 6 < 14 by omega)
      rw [hX6] at a6
      have hL := hs2.lvs w.heap.size (List.mem_cons_self)
      simp only [data, Prod.mk.injEq] at hd1
      obtain ⟨g0, g1, g2, g3, g4, g5⟩ := hd1
      have c1 := hL.at 1 (.int .u64 (M2 w.heap.size).hi) rfl
      have c2 := hL.at 2 (.int .u64 (M2 w.heap.size).lo) rfl
      have c3 := hL.at 3 (.int .i64 (M2 w.heap.size).orders) rfl
      have c4 := hL.at 4 (.int .u32 (M2 w.heap.size).head) rfl
      have c5 := hL.at 5 (.int .u32 (M2 w.heap.size).tail) rfl
      rw [show (M2 w.heap.size).hi = 0 from g1] at c1
      rw [show (M2 w.heap.size).lo = 0 from g2] at c2
      rw [show (M2 w.heap.size).orders = 0 from g3] at c3
      rw [show (M2 w.heap.size).head = 0 from g4] at c4
      rw [show (M2 w.heap.size).tail = 0 from g5] at c5
      exact ⟨⟨a3, a6, ⟨_, r2.cell hc (show 7 < 14 by omega)⟩, r2.free, r2.lt⟩, c1, c2, c3, c4, c5, hL.free, hL.lt⟩
    · rintro e w' ⟨rfl, w2, wx, ⟨k, M2, T2, hs2, hio2, hd1, hd2, hg, hsz⟩, hB, rfl⟩
      have hs2' : Side w2 sb buy (some ⟨eb, 0, none⟩) (w.heap.size :: ds) M2 T2 := hs2
      have r2 := hrow2 k w2 hg
      have hld : w.heap.size ∈ w.heap.size :: ds := List.mem_cons_self
      simp only [data, Prod.mk.injEq] at hd1
      obtain ⟨g0, g1, g2, g3, g4, g5⟩ := hd1
      replace g0 : (M2 w.heap.size).price = p := g0
      replace hio2 : io T2 = xs ++ w.heap.size :: ys := hio2
      have hp0' : Hp w2 sb (sideCells buy (root T2) (io T2).getLast? (some ⟨eb, 0, none⟩)) (w.heap.size :: ds) M2 cb X := ⟨hs2'.blk, hs2'.lvs, r2, hs2'.out, by omega, hcbl⟩
      generalize hl : w.heap.size = l at *
      have hp5 := ((((hp0'.setX (i := cnt) (k := 7) (by omega) (.int .u32 0)).setL hld 4 (.int .u32 ((cnt : Int) + 1)) (v' := { M2 l with head := (cnt : Int) + 1 }) rfl).setL hld 5 (.int .u32 ((cnt : Int) + 1)) (v' := { M2 l with head := (cnt : Int) + 1, tail := (cnt : Int) + 1 }) (by rw [upd_same]; rfl)).setL hld 1 (.int .u64 0) (v' := { M2 l with head := (cnt : Int) + 1, tail := (cnt : Int) + 1, hi := 0 }) (by rw [upd_same]; rfl)).setL hld 2 (.int .u64 q) (v' := { M2 l with head := (cnt : Int) + 1, tail := (cnt : Int) + 1, hi := 0, lo := q }) (by rw [upd_same]; rfl)
      have hp7 := hp5.below (w' := wx) (by simpa [World.setCell] using hB)
      have hp8 := hp7.setL hld 3 (.int .i64 1) (v' := { M2 l with head := (cnt : Int) + 1, tail := (cnt : Int) + 1, hi := 0, lo := q, orders := 1 }) (by rw [upd_same]; rfl)
      have hllim : lim ≤ l := by omega
      have hKl' : ¬ K l := fun hx => by have := hKs l hx; omega
      have hup' : ∀ b, b ∈ l :: ds → lim ≤ b := fun b hb => by
        rcases List.mem_cons.1 hb with rfl | hb
        · exact hllim
        · exact hup b hb
      have st : Keep K sb cb w (wx.setCell ⟨l, 3, none⟩ (.int .i64 1)) :=
        ((((((((Keep.refl K sb cb w).drewN k).grew hg hKd (fun x hx => by show x < w.heap.size; rw [hl]; exact hKs x hx)).set (.inr (.inr rfl))).set (.inl hKl')).set (.inl hKl')).set (.inl hKl')).set (.inl hKl')).below hB (fun x hx => Nat.lt_of_lt_of_le (show x < (w.drewN k).heap.size by show x < w.heap.size; rw [hl]; exact hKs x hx) hg.size) |>.set (.inl hKl')
      have hMo : ∀ c, c ≠ l → upd (upd (upd (upd (upd M2 l { M2 l with head := (cnt : Int) + 1 }) l { M2 l with head := (cnt : Int) + 1, tail := (cnt : Int) + 1 }) l { M2 l with head := (cnt : Int) + 1, tail := (cnt : Int) + 1, hi := 0 }) l { M2 l with head := (cnt : Int) + 1, tail := (cnt : Int) + 1, hi := 0, lo := q }) l { M2 l with head := (cnt : Int) + 1, tail := (cnt : Int) + 1, hi := 0, lo := q, orders := 1 } c = M2 c := fun c hc' => by
        rw [upd_other _ _ _ _ hc', upd_other _ _ _ _ hc', upd_other _ _ _ _ hc', upd_other _ _ _ _ hc', upd_other _ _ _ _ hc']
      have hMb : upd (upd (upd (upd (upd M2 l { M2 l with head := (cnt : Int) + 1 }) l { M2 l with head := (cnt : Int) + 1, tail := (cnt : Int) + 1 }) l { M2 l with head := (cnt : Int) + 1, tail := (cnt : Int) + 1, hi := 0 }) l { M2 l with head := (cnt : Int) + 1, tail := (cnt : Int) + 1, hi := 0, lo := q }) l { M2 l with head := (cnt : Int) + 1, tail := (cnt : Int) + 1, hi := 0, lo := q, orders := 1 } l = { M2 l with head := (cnt : Int) + 1, tail := (cnt : Int) + 1, hi := 0, lo := q, orders := 1 } := upd_same _ _ _
      generalize upd (upd (upd (upd (upd M2 l { M2 l with head := (cnt : Int) + 1 }) l { M2 l with head := (cnt : Int) + 1, tail := (cnt : Int) + 1 }) l { M2 l with head := (cnt : Int) + 1, tail := (cnt : Int) + 1, hi := 0 }) l { M2 l with head := (cnt : Int) + 1, tail := (cnt : Int) + 1, hi := 0, lo := q }) l { M2 l with head := (cnt : Int) + 1, tail := (cnt : Int) + 1, hi := 0, lo := q, orders := 1 } = M' at *
      have same : ∀ c, (M' c).price = (M2 c).price ∧ (M' c).left = (M2 c).left ∧ (M' c).right = (M2 c).right ∧ (M' c).height = (M2 c).height ∧ (M' c).worse = (M2 c).worse ∧ (M' c).better = (M2 c).better := fun c => by
        by_cases e : c = l
        · subst e; rw [hMb]; exact ⟨rfl, rfl, rfl, rfl, rfl, rfl⟩
        · rw [hMo c e]; exact ⟨rfl, rfl, rfl, rfl, rfl, rfl⟩
      have hsd : Side (wx.setCell ⟨l, 3, none⟩ (.int .i64 1)) sb buy (some ⟨eb, 0, none⟩) (l :: ds) M' T2 :=
        ⟨hp8.blk, hp8.lvs, hp8.out, hs2'.rep.of (fun c _ => ⟨(same c).2.1, (same c).2.2.1, (same c).2.2.2.1⟩), hs2'.bal, hs2'.sub, hs2'.srt.of (fun c _ => (same c).1), hs2'.lnk.of (fun c _ => ⟨(same c).2.2.2.2.1, (same c).2.2.2.2.2⟩)⟩
      have hinT : ∀ c, c ∈ io T2 → c ≠ l → c ∈ io T := fun c hc' hcl => by
        rw [hio2] at hc'
        rw [e0]
        simp only [List.mem_append, List.mem_cons] at hc' ⊢
        rcases hc' with e | e | e
        · exact .inl e
        · exact absurd e hcl
        · exact .inr e
      have hd2' : ∀ c, c ∈ io T → data (M2 c) = data (M c) := fun c hc' => hd2 c (h.side.sub c hc')
      refine ⟨rfl, ⟨l :: ds, M', T2, set2 X cnt 7 (.int .u32 0), ?_⟩, st⟩
      refine h.close_add hc hX1 hX2 hX3 hX6 hq hKl st hsd hp8.row hup' ?_ ?_ ?_ ?_ ?_ ?_ ?_ ⟨l, by rw [hio2]; simp, by rw [(same l).1, g0]⟩ ?_
      · intro j f h7 h8
        rw [set2_other _ _ _ _ _ _ (.inr h7)]
      · intro j hj
        rw [set2_other _ _ _ _ _ _ (.inl hj)]
      · rw [set2_same, hOn]; rfl
      · intro j hj
        rw [set2_other _ _ _ _ _ _ (.inr (by omega))]
      · intro j hj
        rw [hOn] at hj
        cases hj
      · intro c hc' hcp
        have hcl : c = l := by
          apply Classical.byContradiction
          intro hcl
          have hcT := hinT c hc' hcl
          apply hno c hcT
          rw [← hcp, (same c).1]
          exact (congrArg (fun t => t.1) (hd2' c hcT)).symm
        subst hcl
        rw [hMb, hOn]
        simp [data, g0, sm, rf]
      · intro c hc' hcp
        have hcl : c ≠ l := fun e => hcp (by rw [e, (same l).1, g0])
        exact ⟨c, hinT c hc' hcl, by rw [hMo c hcl]; exact hd2' c (hinT c hc' hcl)⟩
      · intro b0 hb0
        refine ⟨b0, ?_, ?_⟩
        · rw [hio2]
          rw [e0] at hb0
          simp only [List.mem_append, List.mem_cons] at hb0 ⊢
          rcases hb0 with e | e
          · exact .inl e
          · exact .inr (.inr e)
        · rw [(same b0).1]
          exact congrArg (fun t => t.1) (hd2' b0 hb0)
end
end Go.Proofs.YbulkdilgDoor
