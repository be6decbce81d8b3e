import Derived.Test.YbulkdilgSlices
namespace Go.Proofs.Ybulkdilg
open Go.RowKit Go.Lib
set_option linter.unusedVariables false
set_option linter.unusedSimpArgs false
set_option linter.unnecessarySimpa false

theorem kept_below {g base : Nat} {w w' : World} (h : Kept [g] w w') (hg : base ≤ g) : Below base w w' :=
  ⟨h.os, h.tape, h.output, by rw [h.size]; exact Nat.le_refl _, fun k hk => h.block k (by simp; omega)⟩

/-- slices.Insert of one amount. -/
theorem ins_c (base n i : Nat) (v : Value) (xs : List Value) (a : Int) (B : Nat) (w : World) (hown : w.ownsRow base 25 1 v n xs) (h1 : ∀ u ∈ xs, u.oneCell' = true) (hi : i ≤ n) (hn : n ≤ 5000) (hB : w.heap[B]? = some (.cells #[.int .i64 a] 25 (0, 0))) (hBv : v.ownBlock ≠ some B) (hbs : base ≤ w.heap.size) :
    Calls Yba.prog 5 #[v, .int .i64 i, .slice (some ⟨B, 0, none⟩) 1 1] w fun e w' => ∃ v', e = .returned v' ∧ w'.ownsRow base 25 1 v' (n + 1) (xs.take i ++ .int .i64 a :: xs.drop i) ∧ Below base w w' := by
  rcases Nat.lt_or_ge i n with hlt | hge
  · obtain ⟨hl, ⟨rfl, h0⟩ | ⟨g, cap, cur, rfl, hg, hgc, hnc, hcm, hcz, htk⟩⟩ := hown
    · omega
    · rw [Nat.mul_one] at hl hcz htk
      have hgc' : w.heap[g]? = some (.cells cur.toList.toArray 25 (0, 0)) := by simpa using hgc
      have hcl : cur.toList.length = cap := by simpa using hcz
      by_cases hr : n + 1 ≤ cap
      · refine (ins_shift base n i g cap xs cur.toList a B w hg hgc' hcl htk h1 hlt hr hcm hB (fun e => hBv (by rw [e]; rfl))).mono ?_
        rintro e w' ⟨rfl, hg', hk⟩
        have hXl : (xs.drop i).length = n - i := by rw [List.length_drop, hl]
        refine ⟨_, rfl, ⟨by simp [hXl, hl]; omega, .inr ⟨g, cap, _, rfl, hg, hg', hr, hcm, ?_, ?_⟩⟩, kept_below hk hg⟩
        · have : (splice (splice cur.toList (i + 1) (xs.drop i)) i [.int .i64 a]).length = cur.toList.length := by
            have e1 : (splice cur.toList (i + 1) (xs.drop i)).length = cur.toList.length := length_splice _ _ _ (by rw [hXl]; omega)
            rw [length_splice _ _ _ (by rw [e1]; simp at hcl ⊢; omega), e1]
          simpa [hcl] using this
        · rw [Nat.mul_one]
          have := sp_shift cur.toList (xs.drop i) (.int .i64 a) i n hlt hXl (by omega)
          rw [show cur.toList.take i = xs.take i by rw [← htk, List.take_take, Nat.min_eq_left (by omega)]] at this
          exact this
      · refine (ins_grow base n i g cap xs cur.toList a B w hg hgc' hcl htk h1 hlt hnc (by omega) hn hB).mono ?_
        rintro e w' ⟨G, R, rfl, hg', hRs, hG1, hG2, hRt, hb⟩
        have hXl : (xs.drop i).length = n - i := by rw [List.length_drop, hl]
        refine ⟨_, rfl, ⟨by simp [hXl, hl]; omega, .inr ⟨_, G, R, rfl, hbs, hg', hG1, hG2, by omega, by rw [Nat.mul_one]; exact hRt⟩⟩, ?_⟩
        exact ⟨hb.os, hb.tape, hb.output, hb.size, fun k hk => hb.block k (by omega)⟩
  · obtain rfl : i = n := by omega
    have hl : xs.length = i := by have := hown.1; omega
    rw [List.take_of_length_le (by omega), List.drop_of_length_le (by omega)]
    exact ins_end base i v xs a B w hown hn hB hbs

set_option maxHeartbeats 1000000 in
theorem clone_c (g n c : Nat) (xs cur : List Value) (w : World) (hgc : w.heap[g]? = some (.cells cur.toArray 25 (0, 0))) (htk : cur.take n = xs) (hl : xs.length = n) (h1 : ∀ u ∈ xs, u.oneCell' = true) (hn0 : 0 < n) (hn : n ≤ 5000) :
    Calls Yba.prog 10 #[.slice (some ⟨g, 0, none⟩) n c] w fun e w' => ∃ v', e = .returned v' ∧ w'.ownsRow w.heap.size 25 1 v' n xs ∧ Below w.heap.size w w' := by
  obtain ⟨i0, hi0, hz0, hz1, hz2⟩ := info_parts info25
  have q24 : ∀ (w : World) (a : Option Addr) (n c n' c' : Nat), (binOp .eql 24 (.slice a n c) (.slice none n' c')).run Yba.prog w = .ok (.bool a.isNone) w := fun w a n c n' c' => Lib.run_eql_slice_nil w _ _ a n c n' c' Yba.underlying24
  have hglt : g < w.heap.size := (Array.getElem?_eq_some_iff.1 hgc).1
  have hsrc : Hid (∀ j u, xs[j]? = some u → (w.alloc (.cells #[] 25)).cell? ((⟨g, 0, none⟩ : Addr).add j) = some u) := fun j u hj => by
    rw [add_at, Nat.zero_add]
    refine Lib.cell?_alloc_some _ ?_
    rw [← htk, List.getElem?_take] at hj
    split at hj
    · simp [World.cell?, hgc, hj]
    · cases hj
  have h1' := hid h1
  clear hgc htk h1
  go_enter Yba.func10, Yba.ntmps10
  go_wp2_with (at_builtin; refine wpList_append_own _ rfl (.tmp 5) (.tmp 6) 24 rfl w.heap.size 25 i0 (.int .i64 0) 1 8 Yba.underlying24 hi0 hz0 hz1 hz2 rfl (by decide) _ _ _ rfl (World.ownsRow_made w #[] 0 (Nat.le_refl _) (Nat.zero_le _) rfl) ⟨g, 0, none⟩ n c xs rfl (by omega) hsrc.out h1'.out (by unfold maxLen; omega) (by omega) (by simp) ?_)
  intro v' w1 hown hgrow hnil
  go_wp2
  go_ret
  refine ⟨v', rfl, by simpa using hown, ?_⟩
  exact ((Below.refl _ w).alloc (Nat.le_refl _) _).grown hgrow (by simp) (by intro k hk; simp [Value.ownBlock] at hk; omega)

theorem setCells_row (b : Nat) (t : TypeId) : ∀ (vs : List Value) (o : Nat) (w : World) (cur : List Value), w.heap[b]? = some (.cells cur.toArray t (0, 0)) → o + vs.length ≤ cur.length → (w.setCells b o vs).heap[b]? = some (.cells (splice cur o vs).toArray t (0, 0)) ∧ Kept [b] w (w.setCells b o vs)
  | [], o, w, cur, h, hl => ⟨by simpa [splice, World.setCells] using h, Kept.refl _ _⟩
  | v :: r, o, w, cur, h, hl => by
    simp only [List.length_cons] at hl
    have h' : (w.setCell ⟨b, o, none⟩ v).heap[b]? = some (.cells (cur.set o v).toArray t (0, 0)) := by
      simp [World.setCell, Array.getElem?_modify, h]
    obtain ⟨e1, e2⟩ := setCells_row b t r (o + 1) (w.setCell ⟨b, o, none⟩ v) (cur.set o v) h' (by simp; omega)
    refine ⟨?_, ((Kept.refl [b] w).set (by simp) o v).trans e2⟩
    rw [World.setCells, e1]
    congr 3
    unfold splice
    rw [List.take_set, List.drop_set_of_lt (by omega), List.take_succ_eq_append_getElem (by omega : o < cur.length)]
    rw [List.set_append_right _ _ (by rw [List.length_take]; omega)]
    simp only [List.length_take, List.length_cons]
    rw [Nat.min_eq_left (by omega), Nat.sub_self]
    simp [Nat.add_comm, Nat.add_left_comm]

theorem zero25 (w : World) : (zeroValue 25).run Yba.prog w = .ok (.int .i64 0) w := by
  obtain ⟨i0, hi0, hz0, hz1, hz2⟩ := info_parts info25
  simp [zeroValue, typeInfo, Sem.run, hi0, hz0]

set_option maxHeartbeats 2000000 in
theorem delete_c (g n i cap : Nat) (xs cur : List Value) (w : World) (hgc : w.heap[g]? = some (.cells cur.toArray 25 (0, 0))) (hcl : cur.length = cap) (htk : cur.take n = xs) (h1 : ∀ u ∈ xs, u.oneCell' = true) (hi : i < n) (hnc : n ≤ cap) (hcm : cap ≤ maxLen) :
    Calls Yba.prog 9 #[.slice (some ⟨g, 0, none⟩) n cap, .int .i64 i, .int .i64 ((i : Int) + 1)] w fun e w' => e = .returned (.slice (some ⟨g, 0, none⟩) (n - 1) cap) ∧ (∃ R, w'.heap[g]? = some (.cells R 25 (0, 0)) ∧ R.toList.take (n - 1) = xs.take i ++ xs.drop (i + 1)) ∧ Kept [g] w w' := by
  unfold maxLen at hcm
  obtain ⟨i0, hi0, hz0, hz1, hz2⟩ := info_parts info25
  have hl : xs.length = n := by rw [← htk, List.length_take]; omega
  obtain ⟨news, hnews⟩ : ∃ news, news = xs.drop (i + 1) := ⟨_, rfl⟩
  have hlen : news.length = n - (i + 1) := by rw [hnews, List.length_drop, hl]
  obtain ⟨A, hA, hsrc⟩ : ∃ A : Addr, (if cap = i + 1 then some (⟨g, 0, none⟩ : Addr) else some ⟨g, i + 1, none⟩) = some A ∧ Hid (∀ t u, news[t]? = some u → w.drew.cell? (A.add t) = some u) := by
    by_cases h : cap = i + 1
    · refine ⟨⟨g, 0, none⟩, by simp [h], fun t u hu => ?_⟩
      have h0 : news.length = 0 := by rw [hlen]; omega
      rw [List.length_eq_zero_iff.1 h0] at hu
      simp at hu
    · refine ⟨⟨g, i + 1, none⟩, by simp [h], fun t u hu => ?_⟩
      rw [add_at]
      rw [hnews, List.getElem?_drop, ← htk, List.getElem?_take] at hu
      show w.cell? _ = _
      split at hu
      · simp [World.cell?, hgc, hu]
      · cases hu
  have s1 : Hid (news.length = (n - (i + 1)) * 1) := by rw [Nat.mul_one]; exact hlen
  have s2 : Hid (∀ u ∈ news, u.oneCell' = true) := fun u hu => h1 u (by rw [hnews] at hu; exact List.mem_of_mem_drop hu)
  have s3 : Hid (∀ t, t < news.length → (w.drew.cell? ⟨g, 0 + i * 1 + t, none⟩).isSome = true ∧ w.drew.frozen? ⟨g, 0 + i * 1 + t, none⟩ = false) := by
    intro t ht
    rw [hlen] at ht
    rw [Nat.mul_one, Nat.zero_add]
    refine ⟨?_, ?_⟩
    · show (w.cell? _).isSome = true
      have : i + t < cur.length := by omega
      simp [World.cell?, hgc, this]
    · show w.frozen? _ = false
      simp [World.frozen?, hgc]
  obtain ⟨W1, hW1⟩ : ∃ W1, W1 = w.drew.setCells g (0 + i * 1) news := ⟨_, rfl⟩
  obtain ⟨r1, k1⟩ := setCells_row g 25 news i w.drew cur hgc (by omega)
  have hW1' : w.drew.setCells g i news = W1 := by rw [hW1, show 0 + i * 1 = i by omega]
  rw [hW1'] at r1 k1
  have hS : (splice cur i news).length = cap := by rw [length_splice _ _ _ (by omega)]; exact hcl
  have hcl2 : ∀ ty, (Builtin.clear_ #[24] ty #[.slice (some ⟨g, i + (n - (i + 1)), none⟩) (n - (i + (n - (i + 1)))) (cap - (i + (n - (i + 1))))]).run Yba.prog W1 = .ok (.tuple #[]) (W1.setCells g (i + (n - (i + 1))) (List.replicate (n - (i + (n - (i + 1)))) (.int .i64 0))) := fun ty =>
    Lib.run_clear_slice W1 24 25 ty (.int .i64 0) Yba.underlying24 zero25 rfl rfl g _ _ _ (by omega) (fun t ht => by
      have : i + (n - (i + 1)) + t < (splice cur i news).length := by omega
      simp [World.cell?, r1, this]) (fun t ht => by simp [World.frozen?, r1])
  obtain ⟨W2, hW2⟩ : ∃ W2, W2 = W1.setCells g (i + (n - (i + 1))) (List.replicate (n - (i + (n - (i + 1)))) (.int .i64 0)) := ⟨_, rfl⟩
  obtain ⟨r2, k2⟩ := setCells_row g 25 (List.replicate (n - (i + (n - (i + 1)))) (.int .i64 0)) (i + (n - (i + 1))) W1 _ r1 (by rw [hS]; simp; omega)
  rw [← hW2] at hcl2 r2 k2
  have e1 := sp1 cur news i (by omega)
  have e2 := sp3 (splice cur i news) (List.replicate (n - (i + (n - (i + 1)))) (.int .i64 0)) (i + (n - (i + 1))) (n - 1) (by omega) (by omega)
  have hF : Hid ((∃ R, W2.heap[g]? = some (.cells R 25 (0, 0)) ∧ R.toList.take (n - 1) = xs.take i ++ news) ∧ Kept [g] w W2) := by
    refine ⟨⟨_, r2, ?_⟩, ((Kept.refl [g] w).drewN 1).trans (k1.trans k2)⟩
    rw [show i + news.length = n - 1 by omega] at e1
    show List.take (n - 1) (splice _ _ _) = _
    rw [e2, e1, ← htk, List.take_take, Nat.min_eq_left (by omega)]
  have hW : Hid (W1 = w.drew.setCells g (0 + i * 1) news) := hW1
  have hX := hid hnews
  rw [← hnews]
  have hic : i ≤ cap := by omega
  have hjc : i + 1 ≤ cap := by omega
  have hjn : i + 1 ≤ n := by omega
  have hji : (i : Int) + 1 ≤ (n : Int) := by omega
  have hji2 : (i : Int) + 1 ≤ (cap : Int) := by omega
  have hw1 : IntKind.i64.wrap ((i : Int) + 1) = (i : Int) + 1 := by rw [IntKind.wrap_i64]; omega
  have hb1' : (0 : Int) ≤ (i : Int) + 1 := by omega
  have htn : ((i : Int) + 1).toNat = i + 1 := by omega
  clear hW1 hW1' r1 k1 r2 k2 e1 e2 hS hW2 hnews hlen hgc htk h1 hcl
  go_enter Yba.func9, Yba.ntmps9
  go_wp2_with fail
  go_region_law (refine step_append_room rfl (.tmp 22) (.tmp 25) 24 rfl 25 i0 1 Yba.underlying24 hi0 hz1 g 0 i cap (by simp [Act.eval, Act.put]) A (n - (i + 1)) (cap - (i + 1)) news (by simp [Act.eval, Act.put]) s1.out hsrc.out s2.out (by omega) s3.out ?_; rw [← hW.out])
  go_wp2
  go_ret
  exact ⟨by rw [show n - 1 = i + (n - (i + 1)) by omega]; rfl, hF.out⟩
end Go.Proofs.Ybulkdilg
