import Derived.Test.YbulkdilgDoorRemC
import Derived.Test.YbulkdilgDoorRem00
import Derived.Test.YbulkdilgDoorRem01
import Derived.Test.YbulkdilgDoorRem10
import Derived.Test.YbulkdilgDoorRem11
namespace Go.Proofs.YbulkdilgDoor
open Go.RowKit
set_option maxRecDepth 100000
set_option linter.unusedVariables false
set_option linter.unusedSimpArgs false
set_option linter.unnecessarySimpa false

section
variable {w : World} {sb : Nat} {buy : Bool} {eb kb cb lim : Nat} {ds : List Nat} {M : Nat → Lv} {T : Tr} {X : Nat → Nat → Value} {P Q : Nat → Int} {cnt : Nat} {rs : List Nat}

/-- What the turned entries must be. -/
structure Xok (X X' : Nat → Nat → Value) (i : Nat) (A' B' : List Nat) : Prop where
  x1 : ∀ j f, f ≠ 7 → f ≠ 8 → f ≠ 13 → X' j f = X j f
  x13 : ∀ j, j ≠ i → X' j 13 = X j 13
  xi : X' i 13 = .bool true ∧ X' i 7 = .int .u32 0 ∧ X' i 8 = .int .u32 0
  x8 : ∀ j, j ≠ i → (A'.getLast? ≠ some j → X' j 8 = X j 8) ∧ (A'.getLast? = some j → X' j 8 = .int .u32 (rf B'.head?))
  x7 : ∀ j, j ≠ i → (B'.head? ≠ some j → X' j 7 = X j 7) ∧ (B'.head? = some j → X' j 7 = .int .u32 (rf A'.getLast?))

/-- x's own three fields, behind whatever turned before. -/
theorem Xok.mk' {X Y : Nat → Nat → Value} {i : Nat} {A' B' : List Nat} (h1 : ∀ j f, f ≠ 7 → f ≠ 8 → Y j f = X j f)
    (h8 : ∀ j, j ≠ i → (A'.getLast? ≠ some j → Y j 8 = X j 8) ∧ (A'.getLast? = some j → Y j 8 = .int .u32 (rf B'.head?)))
    (h7 : ∀ j, j ≠ i → (B'.head? ≠ some j → Y j 7 = X j 7) ∧ (B'.head? = some j → Y j 7 = .int .u32 (rf A'.getLast?))) :
    Xok X (set2 (set2 (set2 Y i 7 (.int .u32 0)) i 8 (.int .u32 0)) i 13 (.bool true)) i A' B' := by
  refine ⟨?_, ?_, ⟨?_, ?_, ?_⟩, ?_, ?_⟩
  · intro j f e7 e8 e13
    rw [set2_other _ _ _ _ _ _ (.inr e13), set2_other _ _ _ _ _ _ (.inr e8), set2_other _ _ _ _ _ _ (.inr e7)]
    exact h1 j f e7 e8
  · intro j hj
    rw [set2_other _ _ _ _ _ _ (.inl hj), set2_other _ _ _ _ _ _ (.inl hj), set2_other _ _ _ _ _ _ (.inl hj)]
    exact h1 j 13 (by omega) (by omega)
  · exact set2_same _ _ _ _
  · rw [set2_other _ _ _ _ _ _ (.inr (by omega)), set2_other _ _ _ _ _ _ (.inr (by omega)), set2_same]
  · rw [set2_other _ _ _ _ _ _ (.inr (by omega)), set2_same]
  · intro j hj
    rw [set2_other _ _ _ _ _ _ (.inl hj), set2_other _ _ _ _ _ _ (.inl hj), set2_other _ _ _ _ _ _ (.inl hj)]
    exact h8 j hj
  · intro j hj
    rw [set2_other _ _ _ _ _ _ (.inl hj), set2_other _ _ _ _ _ _ (.inl hj), set2_other _ _ _ _ _ _ (.inl hj)]
    exact h7 j hj

theorem Hp.at {sc : Array Value} (h : Hp w sb sc ds M cb X) (b : Nat) : Hp w sb sc ds (upd M b (M b)) cb X := by
  have : upd M b (M b) = M := by
    funext c
    by_cases e : c = b
    · subst e; exact upd_same _ _ _
    · exact upd_other _ _ _ _ e
  rw [this]; exact h
theorem Hp.setL2 {sc : Array Value} {b : Nat} {v : Lv} (h : Hp w sb sc ds (upd M b v) cb X) (hb : b ∈ ds) (i : Nat) (x : Value) (v' : Lv) (e : (cells v).setIfInBounds i x = cells v') : Hp (w.setCell ⟨b, i, none⟩ x) sb sc ds (upd M b v') cb X := by
  have := h.setL hb i x (v' := v') (by rw [upd_same]; exact e)
  have hu : upd (upd M b v) b v' = upd M b v' := by
    funext c
    by_cases e : c = b
    · subst e; rw [upd_same, upd_same]
    · rw [upd_other _ _ _ _ e, upd_other _ _ _ _ e, upd_other _ _ _ _ e]
  rwa [hu] at this

/-- The level stays. -/
theorem Book.rem_keep {A B : List Nat} {i : Nat} (h : Book w sb buy eb kb cb lim ds M T X P Q cnt (A ++ i :: B)) {b : Nat} (hb : b ∈ io T) (hbp : (M b).price = P i)
    {w' : World} {v : Lv} {X' : Nat → Nat → Value} {K : Nat → Prop} (hKl : ∀ k, k < lim → K k) (hst : Keep K sb cb w w')
    (hp : Hp w' sb (sideCells buy (root T) (io T).getLast? (some ⟨eb, 0, none⟩)) ds (upd M b v) cb X') (hx : Xok X X' i (Od P A (P i)) (Od P B (P i))) (hne : Od P A (P i) ++ Od P B (P i) ≠ [])
    (hv : v.price = (M b).price ∧ v.left = (M b).left ∧ v.right = (M b).right ∧ v.height = (M b).height ∧ v.worse = (M b).worse ∧ v.better = (M b).better)
    (hd : data v = (P i, 0, sm Q (Od P A (P i)) + sm Q (Od P B (P i)), (((Od P A (P i)) ++ (Od P B (P i))).length : Int), rf (Od P A (P i) ++ Od P B (P i)).head?, rf (Od P A (P i) ++ Od P B (P i)).getLast?)) :
    Book w' sb buy eb kb cb lim ds (upd M b v) T X' P Q cnt (A ++ B) := by
  have hMo : ∀ c, c ≠ b → upd M b v c = M c := fun c hc => upd_other _ _ _ _ hc
  have hMb : upd M b v b = v := upd_same _ _ _
  generalize upd M b v = M' at *
  have same : ∀ c, (M' c).price = (M c).price ∧ (M' c).left = (M c).left ∧ (M' c).right = (M c).right ∧ (M' c).height = (M c).height ∧ (M' c).worse = (M c).worse ∧ (M' c).better = (M c).better := fun c => by
    by_cases e : c = b
    · subst e; rw [hMb]; exact hv
    · rw [hMo c e]; exact ⟨rfl, rfl, rfl, rfl, rfl, rfl⟩
  have hsd : Side w' sb buy (some ⟨eb, 0, none⟩) ds M' T :=
    ⟨hp.blk, hp.lvs, hp.out, h.side.rep.of (fun c _ => ⟨(same c).2.1, (same c).2.2.1, (same c).2.2.2.1⟩), h.side.bal, h.side.sub, h.side.srt.of (fun c _ => (same c).1), h.side.lnk.of (fun c _ => ⟨(same c).2.2.2.2.1, (same c).2.2.2.2.2⟩)⟩
  refine h.close_rem hKl hst hsd hp.row h.up hx.x1 hx.x13 hx.xi hx.x8 hx.x7 ?_ ?_ (fun _ => ⟨b, hb, by rw [(same b).1, hbp]⟩) (fun b0 hb0 _ => ⟨b0, hb0, (same b0).1⟩)
  · intro c hc hcp
    have hcb' : c = b := srt_inj h.side.srt c b hc hb (by rw [← (same c).1, hcp, hbp])
    subst hcb'
    refine ⟨hne, ?_⟩
    rw [hMb]; exact hd
  · intro c hc hcp
    have hcb' : c ≠ b := fun e => hcp (by rw [e, (same b).1, hbp])
    exact ⟨c, hc, by rw [hMo c hcb']⟩

/-- What is known of i and its level. -/
theorem Book.facts {A B : List Nat} {i : Nat} (h : Book w sb buy eb kb cb lim ds M T X P Q cnt (A ++ i :: B)) : ∃ b, b ∈ io T ∧ b ∈ ds ∧ (M b).price = P i ∧
    (M b).hi = 0 ∧ (M b).lo = sm Q (Od P A (P i)) + (Q i + sm Q (Od P B (P i))) ∧ (M b).orders = (((Od P A (P i)) ++ (Od P B (P i))).length : Int) + 1 ∧ (M b).head = rf (Od P A (P i) ++ i :: Od P B (P i)).head? ∧ (M b).tail = rf (Od P A (P i) ++ i :: Od P B (P i)).getLast? ∧
    X i 7 = .int .u32 (rf (Od P A (P i)).getLast?) ∧ X i 8 = .int .u32 (rf (Od P B (P i)).head?) ∧
    (Calls Ybad.prog 8 #[.pointer (some ⟨sb, 0, none⟩), .int .i64 (P i)] w fun e w' => e = .returned (.pointer (some ⟨b, 0, none⟩)) ∧ ∃ q, w' = w.drewN q) := by
  obtain ⟨b, hb, hbp⟩ := h.cov i (by simp)
  obtain ⟨_, hdat⟩ := h.lvl b hb
  have hO : Od P (A ++ i :: B) (P i) = Od P A (P i) ++ i :: Od P B (P i) := by rw [Od_mid, if_pos rfl]
  rw [hbp, hO] at hdat
  simp only [data, Prod.mk.injEq] at hdat
  obtain ⟨_, g1, g2, g3, g4, g5⟩ := hdat
  have hc := h.chn (P i)
  rw [hO] at hc
  obtain ⟨c7, c8⟩ := hc _ i _ rfl
  refine ⟨b, hb, h.side.sub b hb, hbp, g1, by rw [g2, sm_app, sm_cons], by rw [g3]; simp; omega, g4, g5, c7, c8, ?_⟩
  obtain ⟨xs, ys, e0, e1, C8, hcase⟩ := h.side.split (P i)
  rcases hcase with ⟨b', hb', hy, hbp'⟩ | ⟨_, hno⟩
  · have : b' = b := srt_inj h.side.srt b' b hb' hb (by rw [hbp', hbp])
    rw [hy, this] at C8
    exact C8
  · exact absurd hbp (hno b hb)

set_option maxHeartbeats 1000000 in
theorem Book.remove {A B : List Nat} {i : Nat} (h : Book w sb buy eb kb cb lim ds M T X P Q cnt (A ++ i :: B)) {K : Nat → Prop} (hKl : ∀ k, k < lim → K k) (hKd : ∀ b, b ∈ ds → ¬ K b) (hKs : ∀ k, K k → k < w.heap.size) :
    Calls Ybad.prog 6 #[.pointer (some ⟨sb, 0, none⟩), .pointer (some ⟨cb, i * 14, none⟩)] w fun e w' => e = .returned (.tuple #[]) ∧ (∃ ds' M' T' X', Book w' sb buy eb kb cb lim ds' M' T' X' P Q cnt (A ++ B)) ∧ Keep K sb cb w w' := by
  obtain ⟨b, hb, hbd, hbp, g1, g2, g3, g4, g5, c7, c8, C8⟩ := h.facts
  obtain ⟨d1, d2, d3, d4, d5, d6⟩ := h.dis
  have hblim := h.up b hbd
  have hcbo : cb ∉ ds := fun hm => by have := h.up cb hm; omega
  have hic := h.bnd i (by simp)
  have hcle := h.cle
  have hi : i < 1024 := by omega
  obtain ⟨f1, f2, f3, f6, f13⟩ := h.fld i hic
  have hLb := h.side.lvs b hbd
  have x1 := h.row.cell hi (show 1 < 14 by omega)
  rw [f1] at x1
  have x3 := h.row.cell hi (show 3 < 14 by omega)
  rw [f3] at x3
  have x7 := h.row.cell hi (show 7 < 14 by omega)
  rw [c7] at x7
  have x8 := h.row.cell hi (show 8 < 14 by omega)
  rw [c8] at x8
  have x13 := h.row.cell hi (show 13 < 14 by omega)
  have l1 := hLb.at 1 (.int .u64 (M b).hi) rfl
  have l2 := hLb.at 2 (.int .u64 (M b).lo) rfl
  have l3 := hLb.at 3 (.int .i64 (M b).orders) rfl
  have l4 := hLb.at 4 (.int .u32 (M b).head) rfl
  have l5 := hLb.at 5 (.int .u32 (M b).tail) rfl
  rw [g1] at l1
  rw [g2] at l2
  rw [g3] at l3
  have hp0 : Hp w sb (sideCells buy (root T) (io T).getLast? (some ⟨eb, 0, none⟩)) ds (upd M b (M b)) cb X := Hp.at ⟨h.side.blk, h.side.lvs, h.row, h.side.out, by omega, hcbo⟩ b
  have sA := sm_nonneg h.qty (Od P A (P i))
  have sB := sm_nonneg h.qty (Od P B (P i))
  have hq := h.qty i
  have hrl := h.rlen
  have lA : (Od P A (P i)).length ≤ A.length := List.length_filter_le _ _
  have lB : (Od P B (P i)).length ≤ B.length := List.length_filter_le _ _
  rw [List.length_append, List.length_cons] at hrl
  have hlo : sm Q (Od P A (P i)) + (Q i + sm Q (Od P B (P i))) - Q i = sm Q (Od P A (P i)) + sm Q (Od P B (P i)) := by omega
  have hod : (((Od P A (P i)) ++ (Od P B (P i))).length : Int) + 1 - 1 = (((Od P A (P i)) ++ (Od P B (P i))).length : Int) := by omega
  have hlen2 : ((Od P A (P i)) ++ (Od P B (P i))).length ≤ 1024 := by rw [List.length_append]; omega
  have hnd := h.nod
  have inA : ∀ j, j ∈ Od P A (P i) → j ≠ i ∧ j < 1024 := fun j hj => by
    have hjA := (Od_mem.1 hj).1
    refine ⟨fun e => ?_, ?_⟩
    · subst e; exact (List.nodup_append.1 hnd).2.2 j hjA j (by simp) rfl
    · have := h.bnd j (by simp [hjA]); omega
  have inB : ∀ j, j ∈ Od P B (P i) → j ≠ i ∧ j < 1024 := fun j hj => by
    have hjB := (Od_mem.1 hj).1
    refine ⟨fun e => ?_, ?_⟩
    · subst e; exact (List.nodup_cons.1 (List.nodup_append.1 hnd).2.1).1 hjB
    · have := h.bnd j (by simp [hjB]); omega
  have inAB : ∀ j k, j ∈ Od P A (P i) → k ∈ Od P B (P i) → j ≠ k := fun j k hj hk e => by
    subst e
    exact (List.nodup_append.1 hnd).2.2 j (Od_mem.1 hj).1 j (by simp [(Od_mem.1 hk).1]) rfl
  have close := fun {w' : World} {ds' : List Nat} {M' : Nat → Lv} {T' : Tr} {X' : Nat → Nat → Value} => h.close_rem (w' := w') (ds' := ds') (M' := M') (T' := T') (X' := X') (K := K) hKl
  have keep := fun {w' : World} {v : Lv} {X' : Nat → Nat → Value} => h.rem_keep (w' := w') (v := v) (X' := X') (K := K) hb hbp hKl
  generalize Od P A (P i) = A' at *
  generalize Od P B (P i) = B' at *
  rcases List.eq_nil_or_concat A' with hA0 | ⟨A2, a, hA0⟩
  · cases B' with
    | nil =>
      subst hA0
      refine (rem_nn sb eb kb cb (i * 14) b (P i) (Q i) _ _ _ _ _ w x1 x3 x7 x8 x13 h.row.free hLb.free l1 l2 l3 l4 l5 (h.side.cell 3 _ rfl) h.ec h.kc (by omega) (by omega) (by omega) (by omega) (by omega) (by omega) (by omega) (by omega) hLb.lt h.row.lt hq.1 (by omega) (by omega) (by omega) (by omega) (by omega) (hid C8)
        (fun w2 => (∃ ds' M' T' X', Book w2 sb buy eb kb cb lim ds' M' T' X' P Q cnt (A ++ B)) ∧ Keep K sb cb w w2) (hid ?_)).mono ?_
      · intro n wx hB
        have hp4 := ((hp0.drewN n).setL2 hbd 4 (.int .u32 0) { M b with head := 0 } rfl).setL2 hbd 5 (.int .u32 0) { M b with head := 0, tail := 0 } rfl
        have hp5 := (hp4.setL2 hbd 1 (.int .u64 0) { M b with head := 0, tail := 0, hi := 0 } rfl).setL2 hbd 2 (.int .u64 (sm Q [] + (Q i + sm Q []) - Q i)) { M b with head := 0, tail := 0, hi := 0, lo := sm Q [] + (Q i + sm Q []) - Q i } rfl
        have hp7 := hp5.below (w' := wx) (by simpa [World.setCell] using hB)
        have hp8 := (((hp7.setL2 hbd 3 (.int .i64 ((([] ++ [] : List Nat).length : Int) + 1 - 1)) { M b with head := 0, tail := 0, hi := 0, lo := sm Q [] + (Q i + sm Q []) - Q i, orders := (([] ++ [] : List Nat).length : Int) + 1 - 1 } rfl).setX (i := i) (k := 7) (by omega) (.int .u32 0)).setX (i := i) (k := 8) (by omega) (.int .u32 0)).setX (i := i) (k := 13) (by omega) (.bool true)
        have st := ((((((((((Keep.refl K sb cb w).drewN n).set (i := 4) (x := .int .u32 0) (.inl (hKd b hbd))).set (i := 5) (x := .int .u32 0) (.inl (hKd b hbd))).set (i := 1) (x := .int .u64 0) (.inl (hKd b hbd))).set (i := 2) (x := .int .u64 (sm Q [] + (Q i + sm Q []) - Q i)) (.inl (hKd b hbd))).below hB hKs).set (i := 3) (x := .int .i64 ((([] ++ [] : List Nat).length : Int) + 1 - 1)) (.inl (hKd b hbd))).set (i := i * 14 + 7) (x := .int .u32 0) (.inr (.inr rfl))).set (i := i * 14 + 8) (x := .int .u32 0) (.inr (.inr rfl))).set (i := i * 14 + 13) (x := .bool true) (.inr (.inr rfl))
        have hxo : Xok X (set2 (set2 (set2 X i 7 (.int .u32 0)) i 8 (.int .u32 0)) i 13 (.bool true)) i [] [] := Xok.mk' (fun _ _ _ _ => rfl) (fun j hj => ⟨fun _ => rfl, fun e => by cases e⟩) (fun j hj => ⟨fun _ => rfl, fun e => by cases e⟩)
        obtain ⟨v, hv⟩ : ∃ v : Lv, v = { M b with head := 0, tail := 0, hi := 0, lo := sm Q [] + (Q i + sm Q []) - Q i, orders := (([] ++ [] : List Nat).length : Int) + 1 - 1 } := ⟨_, rfl⟩
        rw [← hv] at hp8
        have hvs : v.price = (M b).price ∧ v.left = (M b).left ∧ v.right = (M b).right ∧ v.height = (M b).height ∧ v.worse = (M b).worse ∧ v.better = (M b).better := by rw [hv]; exact ⟨rfl, rfl, rfl, rfl, rfl, rfl⟩
        clear hv
        have hMo : ∀ c, c ≠ b → upd M b v c = M c := fun c hc => upd_other _ _ _ _ hc
        have hMb : upd M b v b = v := upd_same _ _ _
        generalize upd M b v = M6 at *
        have same : ∀ c, (M6 c).price = (M c).price ∧ (M6 c).left = (M c).left ∧ (M6 c).right = (M c).right ∧ (M6 c).height = (M c).height ∧ (M6 c).worse = (M c).worse ∧ (M6 c).better = (M c).better := fun c => by
          by_cases e : c = b
          · subst e; rw [hMb]; exact hvs
          · rw [hMo c e]; exact ⟨rfl, rfl, rfl, rfl, rfl, rfl⟩
        have hsd : Side _ sb buy (some ⟨eb, 0, none⟩) ds M6 T :=
          ⟨hp8.blk, hp8.lvs, hp8.out, h.side.rep.of (fun c _ => ⟨(same c).2.1, (same c).2.2.1, (same c).2.2.2.1⟩), h.side.bal, h.side.sub, h.side.srt.of (fun c _ => (same c).1), h.side.lnk.of (fun c _ => ⟨(same c).2.2.2.2.1, (same c).2.2.2.2.2⟩)⟩
        obtain ⟨xs, ys, hio⟩ := List.append_of_mem hb
        have htl := h.tlen
        have hrl2 := h.rlen
        refine (drop_c hsd hio (by omega)).mono ?_
        rintro e w' ⟨rfl, M', T', hs', hio', hMl, hd, hk⟩
        have hnT : (xs ++ b :: ys).Nodup := by rw [← hio]; exact h.side.srt.nodup
        have hbn : b ∉ xs ++ ys := (List.nodup_cons.1 ((List.perm_middle.nodup_iff).1 hnT)).1
        have hsub : ∀ c, c ∈ io T' → c ∈ io T ∧ c ≠ b := fun c hc => by
          rw [hio'] at hc
          refine ⟨?_, fun e => hbn (by rw [← e]; exact hc)⟩
          rw [hio]
          rcases List.mem_append.1 hc with e | e <;> simp [e]
        have hdat : ∀ c, c ∈ io T' → data (M' c) = data (M c) := fun c hc => by rw [hd c, hMo c (hsub c hc).2]
        have st2 : Keep K sb cb w w' := st.trans ⟨hk.os, hk.tape, hk.output, by rw [hk.size]; exact Nat.le_refl _, fun k h1 h2 _ => hk.block k (fun hm => by
          rcases List.mem_cons.1 hm with e | e
          · exact h2 e
          · exact hKd k e h1)⟩
        have hrow' : Row14 w' cb _ := hp8.row.of (hk.block cb (fun hm => by
          rcases List.mem_cons.1 hm with e | e
          · omega
          · exact hcbo e))
        refine ⟨rfl, ⟨ds, M', T', _, close st2 hs' hrow' h.up hxo.x1 hxo.x13 hxo.xi hxo.x8 hxo.x7 ?_ ?_ ?_ ?_⟩, st2⟩
        · intro c hc hcp
          exfalso
          have hp : (M c).price = P i := by rw [← hcp]; exact (congrArg (fun t => t.1) (hdat c hc)).symm
          exact (hsub c hc).2 (srt_inj h.side.srt c b (hsub c hc).1 hb (by rw [hp, hbp]))
        · intro c hc _
          exact ⟨c, (hsub c hc).1, hdat c hc⟩
        · intro hne
          exact absurd rfl hne
        · intro b0 hb0 hne
          have hb0b : b0 ≠ b := fun e => hne (by rw [e, hbp])
          have hb0' : b0 ∈ io T' := by
            rw [hio']
            rw [hio] at hb0
            simp only [List.mem_append, List.mem_cons] at hb0 ⊢
            rcases hb0 with e | e | e
            · exact .inl e
            · exact absurd e hb0b
            · exact .inr e
          exact ⟨b0, hb0', congrArg (fun t => t.1) (hdat b0 hb0')⟩
      · rintro e w' ⟨rfl, w2, hz, rfl⟩
        exact ⟨rfl, hz⟩
    | cons b' B2 =>
      subst hA0
      obtain ⟨nb, hbt⟩ := inB b' (by simp)
      refine (rem_ny sb eb kb cb (i * 14) b b' (b' * 14) _ (P i) (Q i) _ _ _ _ _ w rfl hbt (h.row.cell hbt (show 7 < 14 by omega)) (by omega) (by omega) (by omega) (by omega) x1 x3 x7 x8 x13 h.row.free hLb.free l1 l2 l3 l4 l5 (h.side.cell 3 _ rfl) h.ec h.kc (by omega) (by omega) (by omega) (by omega) (by omega) (by omega) (by omega) (by omega) hLb.lt h.row.lt hq.1 (by omega) (by omega) (by omega) (by omega) (by omega) (hid C8)).mono ?_
      rintro e w' ⟨rfl, n, wx, hB, rfl⟩
      have hp4 := (((hp0.drewN n).setL2 hbd 4 (.int .u32 ((b' : Int) + 1)) { M b with head := (b' : Int) + 1 } rfl).setX (i := b') (k := 7) (by omega) (.int .u32 0)).setL2 hbd 1 (.int .u64 0) { M b with head := (b' : Int) + 1, hi := 0 } rfl
      have hp5 := hp4.setL2 hbd 2 (.int .u64 (sm Q [] + (Q i + sm Q (b' :: B2)) - Q i)) { M b with head := (b' : Int) + 1, hi := 0, lo := sm Q [] + (Q i + sm Q (b' :: B2)) - Q i } rfl
      have hp7 := hp5.below (w' := wx) (by simpa [World.setCell] using hB)
      have hp8 := (((hp7.setL2 hbd 3 (.int .i64 ((([] ++ b' :: B2).length : Int) + 1 - 1)) { M b with head := (b' : Int) + 1, hi := 0, lo := sm Q [] + (Q i + sm Q (b' :: B2)) - Q i, orders := (([] ++ b' :: B2).length : Int) + 1 - 1 } rfl).setX (i := i) (k := 7) (by omega) (.int .u32 0)).setX (i := i) (k := 8) (by omega) (.int .u32 0)).setX (i := i) (k := 13) (by omega) (.bool true)
      have st := ((((((((((Keep.refl K sb cb w).drewN n).set (i := 4) (x := .int .u32 ((b' : Int) + 1)) (.inl (hKd b hbd))).set (i := b' * 14 + 7) (x := .int .u32 0) (.inr (.inr rfl))).set (i := 1) (x := .int .u64 0) (.inl (hKd b hbd))).set (i := 2) (x := .int .u64 (sm Q [] + (Q i + sm Q (b' :: B2)) - Q i)) (.inl (hKd b hbd))).below hB hKs).set (i := 3) (x := .int .i64 ((([] ++ b' :: B2).length : Int) + 1 - 1)) (.inl (hKd b hbd))).set (i := i * 14 + 7) (x := .int .u32 0) (.inr (.inr rfl))).set (i := i * 14 + 8) (x := .int .u32 0) (.inr (.inr rfl))).set (i := i * 14 + 13) (x := .bool true) (.inr (.inr rfl))
      refine ⟨rfl, ⟨ds, _, T, _, keep st hp8 (Xok.mk' ?_ ?_ ?_) (by simp) ⟨rfl, rfl, rfl, rfl, rfl, rfl⟩ ?_⟩, st⟩
      · intro j f e7 e8
        rw [set2_other _ _ _ _ _ _ (.inr e7)]
      · intro j hj
        exact ⟨fun _ => by rw [set2_other _ _ _ _ _ _ (.inr (by omega))], fun e => by cases e⟩
      · intro j hj
        refine ⟨fun hne => by rw [set2_other _ _ _ _ _ _ (.inl (fun e => hne (by rw [e]; rfl)))], fun he => ?_⟩
        obtain rfl : b' = j := by simpa using he
        rw [set2_same]; rfl
      · simp only [data, hbp, hlo, hod, g5]
        simp [rf, List.getLast?_cons_cons]
  · rw [List.concat_eq_append] at hA0
    subst hA0
    have hal : (A2 ++ [a]).getLast? = some a := by simp
    obtain ⟨na, hat⟩ := inA a (by simp)
    have hhd : ∀ L : List Nat, (A2 ++ [a] ++ L).head? = (A2 ++ [a]).head? := fun L => by cases A2 <;> rfl
    rw [hal] at x7
    have hd0 : ¬ (M b).head = 0 := by
      rw [g4, hhd]
      cases A2 <;> simp [rf] <;> omega
    cases B' with
    | nil =>
      refine (rem_yn sb eb kb cb (i * 14) b a (a * 14) _ (P i) (Q i) _ _ _ hd0 _ _ w rfl hat (h.row.cell hat (show 8 < 14 by omega)) (by omega) (by omega) (by omega) (by omega) x1 x3 x7 x8 x13 h.row.free hLb.free l1 l2 l3 l4 l5 (h.side.cell 3 _ rfl) h.ec h.kc (by omega) (by omega) (by omega) (by omega) (by omega) (by omega) (by omega) (by omega) hLb.lt h.row.lt hq.1 (by omega) (by omega) (by omega) (by omega) (by omega) (hid C8)).mono ?_
      rintro e w' ⟨rfl, n, wx, hB, rfl⟩
      have hp4 := (((hp0.drewN n).setX (i := a) (k := 8) (by omega) (.int .u32 0)).setL2 hbd 5 (.int .u32 ((a : Int) + 1)) { M b with tail := (a : Int) + 1 } rfl).setL2 hbd 1 (.int .u64 0) { M b with tail := (a : Int) + 1, hi := 0 } rfl
      have hp5 := hp4.setL2 hbd 2 (.int .u64 (sm Q (A2 ++ [a]) + (Q i + sm Q []) - Q i)) { M b with tail := (a : Int) + 1, hi := 0, lo := sm Q (A2 ++ [a]) + (Q i + sm Q []) - Q i } rfl
      have hp7 := hp5.below (w' := wx) (by simpa [World.setCell] using hB)
      have hp8 := (((hp7.setL2 hbd 3 (.int .i64 (((A2 ++ [a] ++ []).length : Int) + 1 - 1)) { M b with tail := (a : Int) + 1, hi := 0, lo := sm Q (A2 ++ [a]) + (Q i + sm Q []) - Q i, orders := ((A2 ++ [a] ++ []).length : Int) + 1 - 1 } rfl).setX (i := i) (k := 7) (by omega) (.int .u32 0)).setX (i := i) (k := 8) (by omega) (.int .u32 0)).setX (i := i) (k := 13) (by omega) (.bool true)
      have st := ((((((((((Keep.refl K sb cb w).drewN n).set (i := a * 14 + 8) (x := .int .u32 0) (.inr (.inr rfl))).set (i := 5) (x := .int .u32 ((a : Int) + 1)) (.inl (hKd b hbd))).set (i := 1) (x := .int .u64 0) (.inl (hKd b hbd))).set (i := 2) (x := .int .u64 (sm Q (A2 ++ [a]) + (Q i + sm Q []) - Q i)) (.inl (hKd b hbd))).below hB hKs).set (i := 3) (x := .int .i64 (((A2 ++ [a] ++ []).length : Int) + 1 - 1)) (.inl (hKd b hbd))).set (i := i * 14 + 7) (x := .int .u32 0) (.inr (.inr rfl))).set (i := i * 14 + 8) (x := .int .u32 0) (.inr (.inr rfl))).set (i := i * 14 + 13) (x := .bool true) (.inr (.inr rfl))
      refine ⟨rfl, ⟨ds, _, T, _, keep st hp8 (Xok.mk' ?_ ?_ ?_) (by simp) ⟨rfl, rfl, rfl, rfl, rfl, rfl⟩ ?_⟩, st⟩
      · intro j f e7 e8
        rw [set2_other _ _ _ _ _ _ (.inr e8)]
      · intro j hj
        rw [hal]
        refine ⟨fun hne => by rw [set2_other _ _ _ _ _ _ (.inl (fun e => hne (by rw [e])))], fun he => ?_⟩
        obtain rfl : a = j := by simpa using he
        rw [set2_same]; rfl
      · intro j hj
        exact ⟨fun _ => by rw [set2_other _ _ _ _ _ _ (.inr (by omega))], fun e => by cases e⟩
      · simp only [data, hbp, hlo, g4, hhd, List.append_nil, hal]
        rw [show ((A2 ++ [a]).length : Int) + 1 - 1 = ((A2 ++ [a]).length : Int) from by omega]
        rfl
    | cons b' B2 =>
      obtain ⟨nb, hbt⟩ := inB b' (by simp)
      have nab := inAB a b' (by simp) (by simp)
      refine (rem_yy sb eb kb cb (i * 14) b a (a * 14) _ b' (b' * 14) _ (P i) (Q i) _ _ _ hd0 _ _ w rfl hat (h.row.cell hat (show 8 < 14 by omega)) (by omega) (by omega) (by omega) (by omega) rfl hbt (h.row.cell hbt (show 7 < 14 by omega)) (by omega) (by omega) (by omega) (by omega) (by omega) x1 x3 x7 x8 x13 h.row.free hLb.free l1 l2 l3 l4 l5 (h.side.cell 3 _ rfl) h.ec h.kc (by omega) (by omega) (by omega) (by omega) (by omega) (by omega) (by omega) (by omega) hLb.lt h.row.lt hq.1 (by omega) (by omega) (by omega) (by omega) (by omega) (hid C8)).mono ?_
      rintro e w' ⟨rfl, n, wx, hB, rfl⟩
      have hp4 := (((hp0.drewN n).setX (i := a) (k := 8) (by omega) (.int .u32 ((b' : Int) + 1))).setX (i := b') (k := 7) (by omega) (.int .u32 ((a : Int) + 1))).setL2 hbd 1 (.int .u64 0) { M b with hi := 0 } rfl
      have hp5 := hp4.setL2 hbd 2 (.int .u64 (sm Q (A2 ++ [a]) + (Q i + sm Q (b' :: B2)) - Q i)) { M b with hi := 0, lo := sm Q (A2 ++ [a]) + (Q i + sm Q (b' :: B2)) - Q i } rfl
      have hp7 := hp5.below (w' := wx) (by simpa [World.setCell] using hB)
      have hp8 := (((hp7.setL2 hbd 3 (.int .i64 (((A2 ++ [a] ++ b' :: B2).length : Int) + 1 - 1)) { M b with hi := 0, lo := sm Q (A2 ++ [a]) + (Q i + sm Q (b' :: B2)) - Q i, orders := ((A2 ++ [a] ++ b' :: B2).length : Int) + 1 - 1 } rfl).setX (i := i) (k := 7) (by omega) (.int .u32 0)).setX (i := i) (k := 8) (by omega) (.int .u32 0)).setX (i := i) (k := 13) (by omega) (.bool true)
      have st := ((((((((((Keep.refl K sb cb w).drewN n).set (i := a * 14 + 8) (x := .int .u32 ((b' : Int) + 1)) (.inr (.inr rfl))).set (i := b' * 14 + 7) (x := .int .u32 ((a : Int) + 1)) (.inr (.inr rfl))).set (i := 1) (x := .int .u64 0) (.inl (hKd b hbd))).set (i := 2) (x := .int .u64 (sm Q (A2 ++ [a]) + (Q i + sm Q (b' :: B2)) - Q i)) (.inl (hKd b hbd))).below hB hKs).set (i := 3) (x := .int .i64 (((A2 ++ [a] ++ b' :: B2).length : Int) + 1 - 1)) (.inl (hKd b hbd))).set (i := i * 14 + 7) (x := .int .u32 0) (.inr (.inr rfl))).set (i := i * 14 + 8) (x := .int .u32 0) (.inr (.inr rfl))).set (i := i * 14 + 13) (x := .bool true) (.inr (.inr rfl))
      refine ⟨rfl, ⟨ds, _, T, _, keep st hp8 (Xok.mk' ?_ ?_ ?_) (by simp) ⟨rfl, rfl, rfl, rfl, rfl, rfl⟩ ?_⟩, st⟩
      · intro j f e7 e8
        rw [set2_other _ _ _ _ _ _ (.inr e7), set2_other _ _ _ _ _ _ (.inr e8)]
      · intro j hj
        rw [hal]
        refine ⟨fun hne => by rw [set2_other _ _ _ _ _ _ (.inr (by omega)), set2_other _ _ _ _ _ _ (.inl (fun e => hne (by rw [e])))], fun he => ?_⟩
        obtain rfl : a = j := by simpa using he
        rw [set2_other _ _ _ _ _ _ (.inr (by omega)), set2_same]; rfl
      · intro j hj
        refine ⟨fun hne => by rw [set2_other _ _ _ _ _ _ (.inl (fun e => hne (by rw [e]; rfl))), set2_other _ _ _ _ _ _ (.inr (by omega))], fun he => ?_⟩
        obtain rfl : b' = j := by simpa using he
        rw [set2_same, hal]; rfl
      · simp only [data, hbp, hlo, hod, g4, g5, hhd]
        simp [List.getLast?_append, List.getLast?_cons_cons]
end
end Go.Proofs.YbulkdilgDoor
