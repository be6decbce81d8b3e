import Derived.Test.YbulkdilgDoorSt
namespace Go.Proofs.YbulkdilgDoor
open Go.RowKit
set_option maxRecDepth 100000
set_option linter.unusedVariables false
set_option linter.unusedSimpArgs false
set_option linter.unnecessarySimpa false

section
variable {w0 w : World} {buy : Bool} {sb eb kb cb lim pb qb lb rb nA cnt : Nat} {rs : List Nat}
theorem St.rlen (h : St w0 w buy sb eb kb cb lim pb qb lb rb nA cnt rs) : rs.length ≤ cnt := by
  obtain ⟨ds, M, T, X, P, Q, hbk, _, _⟩ := h.bk
  have : rs.length ≤ (List.range cnt).length := by
    refine List.Nodup.length_le_of_subset hbk.nod ?_
    intro i hi
    exact List.mem_range.2 (hbk.bnd i hi)
  rw [List.length_range] at this
  exact this
theorem St.bnd (h : St w0 w buy sb eb kb cb lim pb qb lb rb nA cnt rs) {i : Nat} (hi : i ∈ rs) : i < cnt := by
  obtain ⟨ds, M, T, X, P, Q, hbk, _, _⟩ := h.bk
  exact hbk.bnd i hi
theorem St.ec (h : St w0 w buy sb eb kb cb lim pb qb lb rb nA cnt rs) : w.cell? ⟨eb, 0, none⟩ = some (.slice (some ⟨kb, 0, none⟩) 1 1) ∧ w.cell? ⟨kb, 0, none⟩ = some (.slice (some ⟨cb, 0, none⟩) 1024 1024) := by
  obtain ⟨ds, M, T, X, P, Q, hbk, _, _⟩ := h.bk
  exact ⟨hbk.ec, hbk.kc⟩
/-- The entry's five fields are laid, then side.add. -/
def fill (w : World) (cb cnt : Nat) (p q : Int) : World := ((((w.setCell ⟨cb, cnt * 14 + 6, none⟩ (.int .u32 ((cnt : Int) + 1))).setCell ⟨cb, cnt * 14 + 1, none⟩ (.int .i64 p)).setCell ⟨cb, cnt * 14 + 2, none⟩ (.int .i64 q)).setCell ⟨cb, cnt * 14 + 3, none⟩ (.int .i64 q)).setCell ⟨cb, cnt * 14 + 11, none⟩ (.int .i32 (-1))
/-- Behind side.add: the book is one order further; the rows are not yet. -/
def StA (w0 w : World) (buy : Bool) (sb eb kb cb lim pb qb lb rb nA cnt : Nat) (rs : List Nat) (p q : Int) : Prop :=
  (∃ ds M T X P Q, Book w sb buy eb kb cb lim ds M T X (upd P cnt p) (upd Q cnt q) (cnt + 1) (rs ++ [cnt]) ∧
    (∃ f, w.rowIs pb 44 nA f ∧ ∀ i, i < cnt → f i = .int .i64 (P i)) ∧ (∃ f, w.rowIs qb 44 nA f ∧ ∀ i, i < cnt → f i = .int .i64 (Q i))) ∧
  (∃ f, w.rowIs lb 4 nA f ∧ ∀ i, i < cnt → f i = .bool (decide (i ∉ rs))) ∧ (∃ f, w.rowIs rb 3 nA f ∧ ∀ (k i : Nat), rs[k]? = some i → f k = .int .i64 (i : Int)) ∧ lim ≤ w.heap.size ∧ Below w0.heap.size w0 w

theorem ne8 {a b c d e f g h : Nat} (hn : [a, b, c, d, e, f, g, h].Nodup) : (a ≠ b ∧ a ≠ c ∧ a ≠ d ∧ a ≠ e ∧ a ≠ f ∧ a ≠ g ∧ a ≠ h) ∧ (b ≠ c ∧ b ≠ d ∧ b ≠ e ∧ b ≠ f ∧ b ≠ g ∧ b ≠ h) ∧ (c ≠ d ∧ c ≠ e ∧ c ≠ f ∧ c ≠ g ∧ c ≠ h) ∧ (d ≠ e ∧ d ≠ f ∧ d ≠ g ∧ d ≠ h) ∧ True := by
  simp only [List.nodup_cons, List.mem_cons, List.not_mem_nil, or_false, not_or] at hn
  obtain ⟨h1, h2, h3, h4, _⟩ := hn
  exact ⟨h1, h2, h3, h4, trivial⟩

set_option maxHeartbeats 1000000 in
theorem St.addC (h : St w0 w buy sb eb kb cb lim pb qb lb rb nA cnt rs) (hc : cnt < nA) (p q : Int) (hq : 0 ≤ q ∧ q < 4294967296) {W : World} (hW : Below (fill w cb cnt p q).heap.size (fill w cb cnt p q) W) {ob : Nat} (hob : w.heap.size ≤ ob) (hobW : ob < W.heap.size) :
    Calls Ybad.prog 5 #[.pointer (some ⟨sb, 0, none⟩), .pointer (some ⟨cb, cnt * 14, none⟩)] W fun e w' => e = .returned (.tuple #[]) ∧ StA w0 w' buy sb eb kb cb lim pb qb lb rb nA cnt rs p q ∧ w'.heap[ob]? = W.heap[ob]? := by
  obtain ⟨ds, M, T, X, P, Q, hbk, ⟨f1, r1, g1⟩, ⟨f2, r2, g2⟩⟩ := h.bk
  obtain ⟨f3, r3, g3⟩ := h.lf
  obtain ⟨f4, r4, g4⟩ := h.rw
  have hnA := h.nAl
  have b5 : Book (fill w cb cnt p q) sb buy eb kb cb lim ds M T (set2 (set2 (set2 (set2 (set2 X cnt 6 (.int .u32 ((cnt : Int) + 1))) cnt 1 (.int .i64 p)) cnt 2 (.int .i64 q)) cnt 3 (.int .i64 q)) cnt 11 (.int .i32 (-1))) P Q cnt rs := ((((hbk.pre (f := 6) (by omega) (by omega) (by omega) (by omega) (.int .u32 ((cnt : Int) + 1))).pre (f := 1) (by omega) (by omega) (by omega) (by omega) (.int .i64 p)).pre (f := 2) (by omega) (by omega) (by omega) (by omega) (.int .i64 q)).pre (f := 3) (by omega) (by omega) (by omega) (by omega) (.int .i64 q)).pre (f := 11) (by omega) (by omega) (by omega) (by omega) (.int .i32 (-1))
  have ho : ∀ k, k ≠ cb → (fill w cb cnt p q).heap[k]? = w.heap[k]? := fun k hk => by
    unfold fill
    rw [Below.heap_setCell _ _ _ _ hk, Below.heap_setCell _ _ _ _ hk, Below.heap_setCell _ _ _ _ hk, Below.heap_setCell _ _ _ _ hk, Below.heap_setCell _ _ _ _ hk]
  have hsz : (fill w cb cnt p q).heap.size = w.heap.size := by simp [fill, World.setCell]
  have hlmW : lim ≤ W.heap.size := by have h1 := hW.size; have h2 := h.lm; omega
  have b6 := b5.ofBelow hW
  have hKl : ∀ k, k < lim → (k < lim ∨ k = ob) := fun k hk => .inl hk
  have hKd : ∀ x, x ∈ ds → ¬ (x < lim ∨ x = ob) := fun x hx hc' => by
    rcases hc' with e | e
    · have := hbk.up x hx; omega
    · have := (hbk.side.lvs x hx).lt; omega
  have hKs : ∀ k, (k < lim ∨ k = ob) → k < W.heap.size := fun k hk => by
    rcases hk with e | e <;> omega
  refine (b6.add (K := fun k => k < lim ∨ k = ob) hKl hKd hKs (p := p) (q := q) hlmW (by omega) ?_ ?_ ?_ ?_ hq).mono ?_
  · rw [set2_other _ _ _ _ _ _ (.inr (by omega)), set2_other _ _ _ _ _ _ (.inr (by omega)), set2_other _ _ _ _ _ _ (.inr (by omega)), set2_same]
  · rw [set2_other _ _ _ _ _ _ (.inr (by omega)), set2_other _ _ _ _ _ _ (.inr (by omega)), set2_same]
  · rw [set2_other _ _ _ _ _ _ (.inr (by omega)), set2_same]
  · rw [set2_other _ _ _ _ _ _ (.inr (by omega)), set2_other _ _ _ _ _ _ (.inr (by omega)), set2_other _ _ _ _ _ _ (.inr (by omega)), set2_other _ _ _ _ _ _ (.inr (by omega)), set2_same]
  · rintro e w' ⟨rfl, ⟨ds', M', T', X', hB'⟩, hst⟩
    have hobk : w'.heap[ob]? = W.heap[ob]? := hst.block ob (.inr rfl) (by have := hbk.side.lt; omega) (by have := hbk.row.lt; omega)
    have hst' : Keep (fun k => k < lim) sb cb (fill w cb cnt p q) w' := ((Keep.refl (fun k => k < lim) sb cb (fill w cb cnt p q)).below hW (fun k hk => by have := h.lm; rw [hsz]; exact Nat.lt_of_lt_of_le hk this)).trans ⟨hst.os, hst.tape, hst.output, hst.size, fun k h1 h2 h3 => hst.block k (.inl h1) h2 h3⟩
    clear hst b5 b6 hW
    have hbl := h.bel
    have hge := h.ge
    have hlt := h.lt
    have hk : ∀ k, k < lim → k ≠ sb → k ≠ cb → w'.heap[k]? = w.heap[k]? := fun k h1 h2 h3 => (hst'.block k h1 h2 h3).trans (ho k h3)
    have hsz' := hst'.size
    have hlm := h.lm
    have hd6 := hbk.dis.2.2.2.2.2
    have hfin : Below w0.heap.size w0 w' := hbl.trans ⟨hst'.os, hst'.tape, hst'.output, by omega, fun k hk' => hk k (by omega) (by omega) (by omega)⟩
    have hlm' : lim ≤ w'.heap.size := by omega
    obtain ⟨⟨a1, a2, a3, a4, a5, a6, a7⟩, ⟨b1, b2, b3, b4, b5, b6⟩, ⟨c1, c2, c3, c4, c5⟩, ⟨e1, e2, e3, e4⟩, _⟩ := ne8 h.dis
    exact ⟨rfl, ⟨⟨ds', M', T', X', P, Q, hB', ⟨f1, r1.of_block (hk pb hlt.1 a4 a7), g1⟩, ⟨f2, r2.of_block (hk qb hlt.2.1 b3 b6), g2⟩⟩, ⟨f3, r3.of_block (hk lb hlt.2.2.1 c2 c5), g3⟩, ⟨f4, r4.of_block (hk rb hlt.2.2.2 e1 e4), g4⟩, hlm', hfin⟩, hobk⟩

theorem StA.push {p q : Int} (h : StA w0 w buy sb eb kb cb lim pb qb lb rb nA cnt rs p q) (hdis : [pb, qb, lb, rb, sb, eb, kb, cb].Nodup) (hlt : pb < lim ∧ qb < lim ∧ lb < lim ∧ rb < lim)
    (hge : w0.heap.size ≤ pb ∧ w0.heap.size ≤ qb ∧ w0.heap.size ≤ lb ∧ w0.heap.size ≤ rb ∧ w0.heap.size ≤ sb ∧ w0.heap.size ≤ eb ∧ w0.heap.size ≤ kb ∧ w0.heap.size ≤ cb) (hnA : nA ≤ 1024) (hc : cnt < nA) (hrl : rs.length ≤ cnt) (hcr : ∀ i, i ∈ rs → i < cnt) :
    St w0 ((((w.setCell ⟨pb, cnt, none⟩ (.int .i64 p)).setCell ⟨qb, cnt, none⟩ (.int .i64 q)).setCell ⟨lb, cnt, none⟩ (.bool false)).setCell ⟨rb, rs.length, none⟩ (.int .i64 (cnt : Int))) buy sb eb kb cb lim pb qb lb rb nA (cnt + 1) (rs ++ [cnt]) := by
  obtain ⟨⟨ds, M, T, X, P, Q, hB, ⟨f1, r1, g1⟩, ⟨f2, r2, g2⟩⟩, ⟨f3, r3, g3⟩, ⟨f4, r4, g4⟩, hlm, hbl⟩ := h
  obtain ⟨⟨a1, a2, a3, a4, a5, a6, a7⟩, ⟨b1, b2, b3, b4, b5, b6⟩, ⟨c1, c2, c3, c4, c5⟩, ⟨e1, e2, e3, e4⟩, _⟩ := ne8 hdis
  have hup := hB.up
  have hex : ∀ k x, (k = sb ∨ k = eb ∨ k = kb ∨ k = cb ∨ k ∈ ds) → x < lim → x ≠ sb → x ≠ eb → x ≠ kb → x ≠ cb → k ≠ x := fun k x hk hx n1 n2 n3 n4 e => by
    rcases hk with h1 | h1 | h1 | h1 | h1
    · exact n1 (e.symm.trans h1)
    · exact n2 (e.symm.trans h1)
    · exact n3 (e.symm.trans h1)
    · exact n4 (e.symm.trans h1)
    · have := hup k h1
      rw [e] at this
      exact absurd hx (Nat.not_lt.2 this)
  have ho : ∀ k, k ≠ pb → k ≠ qb → k ≠ lb → k ≠ rb → ((((w.setCell ⟨pb, cnt, none⟩ (.int .i64 p)).setCell ⟨qb, cnt, none⟩ (.int .i64 q)).setCell ⟨lb, cnt, none⟩ (.bool false)).setCell ⟨rb, rs.length, none⟩ (.int .i64 (cnt : Int))).heap[k]? = w.heap[k]? := fun k h1 h2 h3 h4 => by
    rw [Below.heap_setCell _ _ _ _ h4, Below.heap_setCell _ _ _ _ h3, Below.heap_setCell _ _ _ _ h2, Below.heap_setCell _ _ _ _ h1]
  have hcnr : cnt ∉ rs := fun hm => by have := hcr cnt hm; omega
  refine ⟨⟨ds, M, T, X, upd P cnt p, upd Q cnt q, hB.ofBlocks (fun k hk => ho k ?_ ?_ ?_ ?_), ⟨_, ((((r1.set cnt (.int .i64 p)).setOther a1 _).setOther a2 _).setOther a3 _), ?_⟩, ⟨_, ((((r2.setOther a1.symm _).set cnt (.int .i64 q)).setOther b1 _).setOther b2 _), ?_⟩⟩,
    ⟨_, ((((r3.setOther a2.symm _).setOther b1.symm _).set cnt (.bool false)).setOther c1 _), ?_⟩, ⟨_, ((((r4.setOther a3.symm _).setOther b2.symm _).setOther c1.symm _).set rs.length (.int .i64 (cnt : Int))), ?_⟩, hdis, hlt, hge, by simpa [World.setCell] using hlm, ?_, hnA, by omega⟩
  · exact hex k pb hk hlt.1 a4 a5 a6 a7
  · exact hex k qb hk hlt.2.1 b3 b4 b5 b6
  · exact hex k lb hk hlt.2.2.1 c2 c3 c4 c5
  · exact hex k rb hk hlt.2.2.2 e1 e2 e3 e4
  · intro i hi
    by_cases e : i = cnt
    · subst e; simp [upd_same]
    · rw [upd_other _ _ _ _ e]
      simp only [if_neg e]
      exact g1 i (by omega)
  · intro i hi
    by_cases e : i = cnt
    · subst e; simp [upd_same]
    · rw [upd_other _ _ _ _ e]
      simp only [if_neg e]
      exact g2 i (by omega)
  · intro i hi
    by_cases e : i = cnt
    · subst e; simp
    · simp only [if_neg e]
      rw [g3 i (by omega)]
      simp [e]
  · intro k i hk
    by_cases e : k = rs.length
    · subst e
      simp at hk
      simp [hk]
    · simp only [if_neg e]
      refine g4 k i ?_
      have hkl : k < (rs ++ [cnt]).length := (List.getElem?_eq_some_iff.1 hk).1
      simp at hkl
      rwa [List.getElem?_append_left (by omega)] at hk
  · exact (((hbl.setCell (p := ⟨pb, cnt, none⟩) hge.1 _).setCell (p := ⟨qb, cnt, none⟩) hge.2.1 _).setCell (p := ⟨lb, cnt, none⟩) hge.2.2.1 _).setCell (p := ⟨rb, rs.length, none⟩) hge.2.2.2.1 _
end
end Go.Proofs.YbulkdilgDoor
