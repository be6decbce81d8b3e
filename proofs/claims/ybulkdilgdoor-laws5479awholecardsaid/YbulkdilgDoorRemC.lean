import Derived.Test.YbulkdilgDoorKeep
namespace Go.Proofs.YbulkdilgDoor
open Go.RowKit
set_option maxRecDepth 100000
set_option linter.unusedVariables false
set_option linter.unusedSimpArgs false
set_option linter.unnecessarySimpa false

section
variable {w : World} {sb : Nat} {buy : Bool} {eb kb cb lim : Nat} {ds : List Nat} {M : Nat → Lv} {T : Tr} {X : Nat → Nat → Value} {P Q : Nat → Int} {cnt : Nat} {rs : List Nat}

theorem Book.close_rem {A B : List Nat} {i : Nat} (h : Book w sb buy eb kb cb lim ds M T X P Q cnt (A ++ i :: B))
    {w' : World} {ds' : List Nat} {M' : Nat → Lv} {T' : Tr} {X' : Nat → Nat → Value} {K : Nat → Prop} (hKl : ∀ k, k < lim → K k) (hst : Keep K sb cb w w')
    (hsd : Side w' sb buy (some ⟨eb, 0, none⟩) ds' M' T') (hrow : Row14 w' cb X') (hup : ∀ b, b ∈ ds' → lim ≤ b)
    (x1 : ∀ j f, f ≠ 7 → f ≠ 8 → f ≠ 13 → X' j f = X j f) (x13 : ∀ j, j ≠ i → X' j 13 = X j 13) (xi : X' i 13 = .bool true ∧ X' i 7 = .int .u32 0 ∧ X' i 8 = .int .u32 0)
    (x8 : ∀ j, j ≠ i → ((Od P A (P i)).getLast? ≠ some j → X' j 8 = X j 8) ∧ ((Od P A (P i)).getLast? = some j → X' j 8 = .int .u32 (rf (Od P B (P i)).head?)))
    (x7 : ∀ j, j ≠ i → ((Od P B (P i)).head? ≠ some j → X' j 7 = X j 7) ∧ ((Od P B (P i)).head? = some j → X' j 7 = .int .u32 (rf (Od P A (P i)).getLast?)))
    (l1 : ∀ b, b ∈ io T' → (M' b).price = P i → Od P A (P i) ++ Od P B (P i) ≠ [] ∧ data (M' b) = (P i, 0, sm Q (Od P A (P i)) + sm Q (Od P B (P i)), (((Od P A (P i)) ++ (Od P B (P i))).length : Int), rf (Od P A (P i) ++ Od P B (P i)).head?, rf (Od P A (P i) ++ Od P B (P i)).getLast?))
    (l2 : ∀ b, b ∈ io T' → (M' b).price ≠ P i → ∃ b0, b0 ∈ io T ∧ data (M' b) = data (M b0))
    (l3 : Od P A (P i) ++ Od P B (P i) ≠ [] → ∃ b, b ∈ io T' ∧ (M' b).price = P i) (l4 : ∀ b0, b0 ∈ io T → (M b0).price ≠ P i → ∃ b, b ∈ io T' ∧ (M' b).price = (M b0).price) :
    Book w' sb buy eb kb cb lim ds' M' T' X' P Q cnt (A ++ B) := by
  obtain ⟨d1, d2, d3, d4, d5, d6⟩ := h.dis
  have hnd0 : (i :: (A ++ B)).Nodup := (List.perm_middle.nodup_iff).1 h.nod
  have hnd : (A ++ B).Nodup := (List.nodup_cons.1 hnd0).2
  have hiAB : i ∉ A ++ B := (List.nodup_cons.1 hnd0).1
  have hmem : ∀ j, j ∈ A ++ B → j ∈ A ++ i :: B := fun j hj => by
    rcases List.mem_append.1 hj with e | e <;> simp [e]
  have hmem' : ∀ j, j ∈ A ++ i :: B → j ≠ i → j ∈ A ++ B := fun j hj hne => by
    simp only [List.mem_append, List.mem_cons] at hj ⊢
    rcases hj with e | e | e
    · exact .inl e
    · exact absurd e hne
    · exact .inr e
  have hAl : ∀ j, (Od P A (P i)).getLast? = some j → j ∈ A ∧ P j = P i := fun j hj => Od_mem.1 (List.mem_of_getLast? hj)
  have hBh : ∀ j, (Od P B (P i)).head? = some j → j ∈ B ∧ P j = P i := fun j hj => Od_mem.1 (List.mem_of_head? hj)
  have hOd : ∀ p', Od P (A ++ B) p' = Od P A p' ++ Od P B p' := fun p' => by unfold Od; rw [List.filter_append]
  refine ⟨hsd, ?_, ?_, hrow, h.dis, hup, h.cle, hnd, fun j hj => h.bnd j (hmem j hj), h.qty, ?_, ?_, ?_, ?_, ?_, ?_⟩
  · obtain ⟨c, e1, e2⟩ := h.e0
    exact ⟨c, (hst.block eb (hKl eb (by omega)) (by omega) d4).trans e1, e2⟩
  · obtain ⟨c, e1, e2⟩ := h.k0
    exact ⟨c, (hst.block kb (hKl kb (by omega)) (by omega) d5).trans e1, e2⟩
  · intro j hj
    obtain ⟨f1, f2, f3, f6, f13⟩ := h.fld j hj
    rw [x1 _ _ (by omega) (by omega) (by omega), x1 _ _ (by omega) (by omega) (by omega), x1 _ _ (by omega) (by omega) (by omega), x1 _ _ (by omega) (by omega) (by omega)]
    refine ⟨f1, f2, f3, f6, ?_⟩
    by_cases e : j = i
    · subst e; rw [xi.1]; simp only [hiAB, not_false_eq_true, decide_true]
    · rw [x13 j e, f13]
      congr 1
      by_cases hm : j ∈ A ++ B
      · simp only [hm, hmem j hm]
      · have : j ∉ A ++ i :: B := fun hc => hm (hmem' j hc e)
        simp only [hm, this]
  · intro j hj
    by_cases e : j = i
    · subst e; exact xi.2
    · have hj' : j ∉ A ++ i :: B := fun hc => hj (hmem' j hc e)
      rw [(x7 j e).1 (fun hc => hj (by simp [(hBh j hc).1])), (x8 j e).1 (fun hc => hj (by simp [(hAl j hc).1]))]
      exact h.out j hj'
  · intro j h1 h2
    have hji : j ≠ i := fun e => by
      have := h.bnd i (by simp)
      omega
    rw [x13 j hji]; exact h.fre j h1 h2
  · intro p'
    rw [hOd]
    have hc := h.chn p'
    rw [Od_mid] at hc
    by_cases e : p' = P i
    · subst e
      rw [if_pos rfl] at hc
      have hnO : (Od P A (P i) ++ i :: Od P B (P i)).Nodup := by
        have : Od P (A ++ i :: B) (P i) = Od P A (P i) ++ i :: Od P B (P i) := by rw [Od_mid, if_pos rfl]
        rw [← this]; exact h.nod.filter _
      refine hc.pull hnO (fun j hj => ?_)
      have hji : j ≠ i := fun e => hiAB (by
        rw [← hOd] at hj
        rw [← e]; exact (Od_mem.1 hj).1)
      exact ⟨(x8 j hji).1, (x8 j hji).2, (x7 j hji).1, (x7 j hji).2⟩
    · rw [if_neg e] at hc
      refine hc.of (fun j hj => ?_)
      rw [← hOd] at hj
      obtain ⟨hj1, hj2⟩ := Od_mem.1 hj
      have hji : j ≠ i := fun e' => hiAB (by rw [← e']; exact hj1)
      exact ⟨(x7 j hji).1 (fun hc => e (hj2.symm.trans (hBh j hc).2)), (x8 j hji).1 (fun hc => e (hj2.symm.trans (hAl j hc).2))⟩
  · intro b hb
    rw [hOd]
    by_cases e : (M' b).price = P i
    · obtain ⟨g1, g2⟩ := l1 b hb e
      rw [e]
      exact ⟨g1, by rw [g2, sm_app]⟩
    · obtain ⟨b0, hb0, e0⟩ := l2 b hb e
      have ep : (M' b).price = (M b0).price := congrArg (fun t => t.1) e0
      have hl := h.lvl b0 hb0
      rw [Od_mid, if_neg (by rw [← ep]; exact e)] at hl
      rw [ep, e0]
      exact hl
  · intro j hj
    obtain ⟨b0, hb0, e0⟩ := h.cov j (hmem j hj)
    by_cases e : P j = P i
    · rw [e]
      refine l3 (fun hc => ?_)
      have : j ∈ Od P (A ++ B) (P i) := Od_mem.2 ⟨hj, e⟩
      rw [hOd, hc] at this
      simp at this
    · obtain ⟨b, hb, e1⟩ := l4 b0 hb0 (by rw [e0]; exact e)
      exact ⟨b, hb, by rw [e1, e0]⟩
end
end Go.Proofs.YbulkdilgDoor
