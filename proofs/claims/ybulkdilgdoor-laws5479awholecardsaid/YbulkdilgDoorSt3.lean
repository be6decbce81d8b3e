import Derived.Test.YbulkdilgDoorSt2
namespace Go.Proofs.YbulkdilgDoor
open Go.RowKit
set_option maxRecDepth 100000
set_option linter.unusedVariables false
set_option linter.unusedSimpArgs false
set_option linter.unnecessarySimpa false

section
variable {w0 w : World} {buy : Bool} {sb eb kb cb lim pb qb lb rb nA cnt : Nat} {rs : List Nat}
/-- Behind side.remove: the book is without i; the rows are as they were. -/
def StR (w0 w : World) (buy : Bool) (sb eb kb cb lim pb qb lb rb nA cnt : Nat) (rs A B : List Nat) : Prop :=
  (∃ ds M T X P Q, Book w sb buy eb kb cb lim ds M T X P Q cnt (A ++ B) ∧
    (∃ f, w.rowIs pb 44 nA f ∧ ∀ i, i < cnt → f i = .int .i64 (P i)) ∧ (∃ f, w.rowIs qb 44 nA f ∧ ∀ i, i < cnt → f i = .int .i64 (Q i))) ∧
  (∃ f, w.rowIs lb 4 nA f ∧ ∀ i, i < cnt → f i = .bool (decide (i ∉ rs))) ∧ (∃ f, w.rowIs rb 3 nA f ∧ ∀ (k i : Nat), rs[k]? = some i → f k = .int .i64 (i : Int)) ∧ lim ≤ w.heap.size ∧ Below w0.heap.size w0 w

set_option maxHeartbeats 1000000 in
theorem St.remC {A B : List Nat} {i : Nat} (h : St w0 w buy sb eb kb cb lim pb qb lb rb nA cnt (A ++ i :: B)) :
    Calls Ybad.prog 6 #[.pointer (some ⟨sb, 0, none⟩), .pointer (some ⟨cb, i * 14, none⟩)] w fun e w' => e = .returned (.tuple #[]) ∧ StR w0 w' buy sb eb kb cb lim pb qb lb rb nA cnt (A ++ i :: B) A B := by
  obtain ⟨ds, M, T, X, P, Q, hbk, ⟨f1, r1, g1⟩, ⟨f2, r2, g2⟩⟩ := h.bk
  obtain ⟨f3, r3, g3⟩ := h.lf
  obtain ⟨f4, r4, g4⟩ := h.rw
  have hKd : ∀ x, x ∈ ds → ¬ (x < lim) := fun x hx hc' => by have := hbk.up x hx; omega
  refine (hbk.remove (K := fun k => k < lim) (fun k hk => hk) hKd (fun k hk => Nat.lt_of_lt_of_le hk h.lm)).mono ?_
  rintro e w' ⟨rfl, ⟨ds', M', T', X', hB'⟩, hst⟩
  have hbl := h.bel
  have hge := h.ge
  have hlt := h.lt
  have hsz' := hst.size
  have hlm := h.lm
  have hd6 := hbk.dis.2.2.2.2.2
  have hk := hst.block
  have hfin : Below w0.heap.size w0 w' := hbl.trans ⟨hst.os, hst.tape, hst.output, hst.size, fun k hk' => hk k (by omega) (by omega) (by omega)⟩
  have hlm' : lim ≤ w'.heap.size := by omega
  obtain ⟨⟨a1, a2, a3, a4, a5, a6, a7⟩, ⟨b1, b2, b3, b4, b5, b6⟩, ⟨c1, c2, c3, c4, c5⟩, ⟨e1, e2, e3, e4⟩, _⟩ := ne8 h.dis
  exact ⟨rfl, ⟨ds', M', T', X', P, Q, hB', ⟨f1, r1.of_block (hk pb hlt.1 a4 a7), g1⟩, ⟨f2, r2.of_block (hk qb hlt.2.1 b3 b6), g2⟩⟩, ⟨f3, r3.of_block (hk lb hlt.2.2.1 c2 c5), g3⟩, ⟨f4, r4.of_block (hk rb hlt.2.2.2 e1 e4), g4⟩, hlm', hfin⟩

theorem St.notin {A B : List Nat} {i : Nat} (h : St w0 w buy sb eb kb cb lim pb qb lb rb nA cnt (A ++ i :: B)) : i ∉ A ++ B := by
  obtain ⟨ds, M, T, X, P, Q, hbk, _, _⟩ := h.bk
  exact (List.nodup_cons.1 ((List.perm_middle.nodup_iff).1 hbk.nod)).1

/-- resting's cells are shifted (W: the world behind the copy), and left[i] is set. -/
theorem StR.pull {A B : List Nat} {i : Nat} (h : StR w0 w buy sb eb kb cb lim pb qb lb rb nA cnt (A ++ i :: B) A B) (hdis : [pb, qb, lb, rb, sb, eb, kb, cb].Nodup) (hlt : pb < lim ∧ qb < lim ∧ lb < lim ∧ rb < lim)
    (hge : w0.heap.size ≤ pb ∧ w0.heap.size ≤ qb ∧ w0.heap.size ≤ lb ∧ w0.heap.size ≤ rb ∧ w0.heap.size ≤ sb ∧ w0.heap.size ≤ eb ∧ w0.heap.size ≤ kb ∧ w0.heap.size ≤ cb) (hnA : nA ≤ 1024) (hc : cnt ≤ nA) (hni : i ∉ A ++ B)
    {W : World} (hos : W.os = w.os ∧ W.tape = w.tape ∧ W.output = w.output ∧ W.heap.size = w.heap.size) (ho : ∀ k, k ≠ rb → W.heap[k]? = w.heap[k]?) (hr : ∃ f, W.rowIs rb 3 nA f ∧ ∀ (k j : Nat), (A ++ B)[k]? = some j → f k = .int .i64 (j : Int)) :
    St w0 (W.setCell ⟨lb, i, none⟩ (.bool true)) buy sb eb kb cb lim pb qb lb rb nA cnt (A ++ B) := by
  obtain ⟨⟨ds, M, T, X, P, Q, hB, ⟨f1, r1, g1⟩, ⟨f2, r2, g2⟩⟩, ⟨f3, r3, g3⟩, _, hlm, hbl⟩ := h
  obtain ⟨⟨a1, a2, a3, a4, a5, a6, a7⟩, ⟨b1, b2, b3, b4, b5, b6⟩, ⟨c1, c2, c3, c4, c5⟩, ⟨e1, e2, e3, e4⟩, _⟩ := ne8 hdis
  obtain ⟨f4, r4, g4⟩ := hr
  have hup := hB.up
  have hex : ∀ k x, (k = sb ∨ k = eb ∨ k = kb ∨ k = cb ∨ k ∈ ds) → x < lim → x ≠ sb → x ≠ eb → x ≠ kb → x ≠ cb → k ≠ x := fun k x hk hx n1 n2 n3 n4 e => by
    rcases hk with h1 | h1 | h1 | h1 | h1
    · exact n1 (e.symm.trans h1)
    · exact n2 (e.symm.trans h1)
    · exact n3 (e.symm.trans h1)
    · exact n4 (e.symm.trans h1)
    · have := hup k h1
      rw [e] at this
      exact absurd hx (Nat.not_lt.2 this)
  have ho2 : ∀ k, k ≠ rb → k ≠ lb → (W.setCell ⟨lb, i, none⟩ (.bool true)).heap[k]? = w.heap[k]? := fun k h1 h2 => by
    rw [Below.heap_setCell _ _ _ _ h2, ho k h1]
  refine ⟨⟨ds, M, T, X, P, Q, hB.ofBlocks (fun k hk => ho2 k (hex k rb hk hlt.2.2.2 e1 e2 e3 e4) (hex k lb hk hlt.2.2.1 c2 c3 c4 c5)), ⟨f1, r1.of_block (ho2 pb a3 a2), g1⟩, ⟨f2, r2.of_block (ho2 qb b2 b1), g2⟩⟩, ⟨_, (r3.of_block (ho lb c1)).set i (.bool true), ?_⟩, ⟨f4, r4.setOther c1.symm _, g4⟩, hdis, hlt, hge, ?_, ?_, hnA, hc⟩
  · intro j hj
    have hn0 : (A ++ B).Nodup := hB.nod
    by_cases e : j = i
    · subst e
      simp only [if_true]
      simp [hni]
    · simp only [if_neg e]
      rw [g3 j hj]
      congr 1
      by_cases hm : j ∈ A ++ B
      · have : j ∈ A ++ i :: B := by rcases List.mem_append.1 hm with h1 | h1 <;> simp [h1]
        simp only [hm, this]
      · have : j ∉ A ++ i :: B := fun hc' => hm (by
          simp only [List.mem_append, List.mem_cons] at hc' ⊢
          rcases hc' with h1 | h1 | h1
          · exact .inl h1
          · exact absurd h1 e
          · exact .inr h1)
        simp only [hm, this]
  · rw [show (W.setCell ⟨lb, i, none⟩ (.bool true)).heap.size = W.heap.size by simp [World.setCell], hos.2.2.2]; exact hlm
  · refine Below.setCell (p := ⟨lb, i, none⟩) ?_ hge.2.2.1 _
    refine hbl.trans ⟨hos.1, hos.2.1, hos.2.2.1, by rw [hos.2.2.2]; exact Nat.le_refl _, fun k hk => ho k (fun e => ?_)⟩
    rw [e] at hk
    exact absurd hge.2.2.2.1 (Nat.not_le.2 hk)
end
end Go.Proofs.YbulkdilgDoor
