import Derived.Test.YbulkdilgDoorAddC
import Derived.Test.YbulkdilgDoorRemD
import Derived.Test.YbulkdilgDoorCommon
namespace Go.Proofs.YbulkdilgDoor
open Go.RowKit
set_option maxRecDepth 100000
set_option linter.unusedVariables false
set_option linter.unusedSimpArgs false
set_option linter.unnecessarySimpa false

section
variable {w : World} {sb : Nat} {buy : Bool} {eb kb cb lim : Nat} {ds : List Nat} {M : Nat → Lv} {T : Tr} {X : Nat → Nat → Value} {P Q : Nat → Int} {cnt : Nat} {rs : List Nat}
/-- A field of an entry that is not in use yet. -/
theorem Book.pre (h : Book w sb buy eb kb cb lim ds M T X P Q cnt rs) {f : Nat} (hf : f < 14) (h7 : f ≠ 7) (h8 : f ≠ 8) (h13 : f ≠ 13) (v : Value) : Book (w.setCell ⟨cb, cnt * 14 + f, none⟩ v) sb buy eb kb cb lim ds M T (set2 X cnt f v) P Q cnt rs := by
  obtain ⟨d1, d2, d3, d4, d5, d6⟩ := h.dis
  have hcbo : cb ∉ ds := fun hm => by have := h.up cb hm; omega
  have ho : ∀ k, k ≠ cb → (w.setCell ⟨cb, cnt * 14 + f, none⟩ v).heap[k]? = w.heap[k]? := fun k hk => Below.heap_setCell _ _ _ _ hk
  have hX : ∀ i k, i < cnt → set2 X cnt f v i k = X i k := fun i k hi => set2_other _ _ _ _ _ _ (.inl (by omega))
  have hX2 : ∀ i k, k ≠ f → set2 X cnt f v i k = X i k := fun i k hk => set2_other _ _ _ _ _ _ (.inr hk)
  refine ⟨h.side.of (fun k hk => ho k (fun e => ?_)), ?_, ?_, h.row.set hf v, h.dis, h.up, h.cle, h.nod, h.bnd, h.qty, ?_, ?_, ?_, ?_, h.lvl, h.cov⟩
  · rcases List.mem_cons.1 hk with e' | e'
    · omega
    · exact hcbo (by rw [← e]; exact e')
  · obtain ⟨c, e1, e2⟩ := h.e0
    exact ⟨c, (ho eb d4).trans e1, e2⟩
  · obtain ⟨c, e1, e2⟩ := h.k0
    exact ⟨c, (ho kb d5).trans e1, e2⟩
  · intro i hi
    rw [hX i 1 hi, hX i 2 hi, hX i 3 hi, hX i 6 hi, hX i 13 hi]
    exact h.fld i hi
  · intro i hi
    rw [hX2 i 7 (fun e => h7 e.symm), hX2 i 8 (fun e => h8 e.symm)]
    exact h.out i hi
  · intro i h1 h2
    rw [hX2 i 13 (fun e => h13 e.symm)]
    exact h.fre i h1 h2
  · intro p
    exact (h.chn p).of (fun j hj => ⟨hX2 j 7 (fun e => h7 e.symm), hX2 j 8 (fun e => h8 e.symm)⟩)
/-- The book stays where its own blocks stay. -/
theorem Book.ofBlocks {w' : World} (h : Book w sb buy eb kb cb lim ds M T X P Q cnt rs) (e : ∀ k, k = sb ∨ k = eb ∨ k = kb ∨ k = cb ∨ k ∈ ds → w'.heap[k]? = w.heap[k]?) : Book w' sb buy eb kb cb lim ds M T X P Q cnt rs := by
  refine ⟨h.side.of (fun k hk => e k ?_), ?_, ?_, h.row.of (e cb (by simp)), h.dis, h.up, h.cle, h.nod, h.bnd, h.qty, h.fld, h.out, h.fre, h.chn, h.lvl, h.cov⟩
  · rcases List.mem_cons.1 hk with rfl | hk <;> simp [*]
  · obtain ⟨c, e1, e2⟩ := h.e0
    exact ⟨c, (e eb (by simp)).trans e1, e2⟩
  · obtain ⟨c, e1, e2⟩ := h.k0
    exact ⟨c, (e kb (by simp)).trans e1, e2⟩
end

/-- WHAT STANDS BETWEEN TWO OPERATIONS: the book and the model's four rows, each in a block of its own. -/
structure St (w0 w : World) (buy : Bool) (sb eb kb cb lim pb qb lb rb nA cnt : Nat) (rs : List Nat) : Prop where
  bk : ∃ ds M T X P Q, Book w sb buy eb kb cb lim ds M T X P Q cnt rs ∧
    (∃ f, w.rowIs pb 44 nA f ∧ ∀ i, i < cnt → f i = .int .i64 (P i)) ∧ (∃ f, w.rowIs qb 44 nA f ∧ ∀ i, i < cnt → f i = .int .i64 (Q i))
  lf : ∃ f, w.rowIs lb 4 nA f ∧ ∀ i, i < cnt → f i = .bool (decide (i ∉ rs))
  rw : ∃ f, w.rowIs rb 3 nA f ∧ ∀ (k i : Nat), rs[k]? = some i → f k = .int .i64 (i : Int)
  dis : [pb, qb, lb, rb, sb, eb, kb, cb].Nodup
  lt : pb < lim ∧ qb < lim ∧ lb < lim ∧ rb < lim
  ge : w0.heap.size ≤ pb ∧ w0.heap.size ≤ qb ∧ w0.heap.size ≤ lb ∧ w0.heap.size ≤ rb ∧ w0.heap.size ≤ sb ∧ w0.heap.size ≤ eb ∧ w0.heap.size ≤ kb ∧ w0.heap.size ≤ cb
  lm : lim ≤ w.heap.size
  bel : Below w0.heap.size w0 w
  nAl : nA ≤ 1024
  cl : cnt ≤ nA

theorem St.alloc {w0 w : World} {buy : Bool} {sb eb kb cb lim pb qb lb rb nA cnt : Nat} {rs : List Nat} (h : St w0 w buy sb eb kb cb lim pb qb lb rb nA cnt rs) {w' : World} (hb : Below w.heap.size w w') : St w0 w' buy sb eb kb cb lim pb qb lb rb nA cnt rs := by
  obtain ⟨ds, M, T, X, P, Q, hbk, ⟨f1, r1, g1⟩, ⟨f2, r2, g2⟩⟩ := h.bk
  obtain ⟨f3, r3, g3⟩ := h.lf
  obtain ⟨f4, r4, g4⟩ := h.rw
  have z0 := h.bel.size
  exact ⟨⟨ds, M, T, X, P, Q, hbk.ofBelow hb, ⟨f1, r1.of_block (hb.block _ r1.lt), g1⟩, ⟨f2, r2.of_block (hb.block _ r2.lt), g2⟩⟩, ⟨f3, r3.of_block (hb.block _ r3.lt), g3⟩, ⟨f4, r4.of_block (hb.block _ r4.lt), g4⟩, h.dis, h.lt, h.ge,
    Nat.le_trans h.lm hb.size, h.bel.trans ⟨hb.os, hb.tape, hb.output, hb.size, fun k hk => hb.block k (by omega)⟩, h.nAl, h.cl⟩
/-- What check reads. -/
theorem St.rd {w0 w : World} {buy : Bool} {sb eb kb cb lim pb qb lb rb nA cnt : Nat} {rs : List Nat} (h : St w0 w buy sb eb kb cb lim pb qb lb rb nA cnt rs) : ∃ ds M T X P Q, Rd w sb buy eb kb cb lim pb qb lb rb ds M T X P Q cnt rs := by
  obtain ⟨ds, M, T, X, P, Q, hbk, ⟨f1, r1, g1⟩, ⟨f2, r2, g2⟩⟩ := h.bk
  obtain ⟨f3, r3, g3⟩ := h.lf
  obtain ⟨f4, r4, g4⟩ := h.rw
  have hcl := h.cl
  have hrs : rs.length ≤ nA := by
    have : rs.length ≤ (List.range cnt).length := by
      refine List.Nodup.length_le_of_subset hbk.nod ?_
      intro i hi
      exact List.mem_range.2 (hbk.bnd i hi)
    rw [List.length_range] at this
    omega
  refine ⟨ds, M, T, X, P, Q, hbk, fun i hi => ?_, fun i hi => ?_, fun i hi => ?_, fun k i hk => ?_, r1.lt, r2.lt, r3.lt, r4.lt⟩
  · rw [r1.cell (by omega), g1 i hi]
  · rw [r2.cell (by omega), g2 i hi]
  · rw [r3.cell (by omega), g3 i hi]
  · have := (List.getElem?_eq_some_iff.1 hk).1
    rw [r4.cell (by omega), g4 k i hk]
end Go.Proofs.YbulkdilgDoor
