import Derived.Test.YbulkdilgL4
import Derived.Test.YbulkdilgWalk
namespace Go.Proofs.Ybulkdilg
open Go.RowKit
set_option linter.unusedVariables false
set_option linter.unusedSimpArgs false
set_option linter.unnecessarySimpa false

theorem Bld.start (w : World) (buy : Bool) : Bld w w.heap.size buy [] (w.alloc (.cells #[.bool buy, .pointer none, .pointer none, .pointer none] 32)) := by
  refine ⟨[], fun _ => lv0 0 none none, .nil, ⟨heap_alloc_new _ _, fun b hb => by simp at hb, by simp, trivial, trivial, fun b hb => by simp [io] at hb, List.Pairwise.nil, ?_⟩, fun b hb => by simp at hb, rfl, (Below.refl _ w).alloc (Nat.le_refl _) _⟩
  intro A b B e
  simp [io] at e

theorem at_rev {S : List Nat} {i l : Nat} (h : S.reverse[i]? = some l) : ∃ xs ys, S = xs ++ l :: ys ∧ ys.length = i := by
  have hlt := (List.getElem?_eq_some_iff.1 h).1
  have e : S.reverse = S.reverse.take i ++ l :: S.reverse.drop (i + 1) := by
    have h2 : S.reverse[i] = l := (List.getElem?_eq_some_iff.1 h).2
    rw [← h2, ← List.drop_eq_getElem_cons hlt, List.take_append_drop]
  refine ⟨(S.reverse.drop (i + 1)).reverse, (S.reverse.take i).reverse, ?_, by simp at hlt ⊢; omega⟩
  have := congrArg List.reverse e
  simpa using this

theorem pl_drop (M : Nat → Lv) (xs ys : List Nat) (l : Nat) : pl M (xs ++ ys) = (pl M (xs ++ l :: ys)).take ys.length ++ (pl M (xs ++ l :: ys)).drop (ys.length + 1) := by
  have e : pl M (xs ++ l :: ys) = pl M ys ++ ((M l).price :: pl M xs) := by
    rw [pl_app, show l :: ys = [l] ++ ys from rfl, pl_app, List.append_assoc]; simp [pl]
  rw [e, pl_app, List.take_left' (pl_len M ys), ← pl_len M ys, show pl M ys ++ (M l).price :: pl M xs = (pl M ys ++ [(M l).price]) ++ pl M xs by simp, List.drop_left' (by simp)]

theorem last_rev (S : List Nat) : S.getLast? = S.reverse[0]? := by
  rw [List.getLast?_eq_head?_reverse, List.head?_eq_getElem?]

/-- What stands when the side is built and the model's list too. -/
structure Sit (w0 w1 wr : World) (sb : Nat) (buy : Bool) (va : Option Addr) (vc : Nat) (W : List Int) (ds : List Nat) (M : Nat → Lv) (T : Tr) : Prop where
  side : Side wr sb buy none ds M T
  up : ∀ b, b ∈ ds → sb < b
  pls : pl M (io T) = W
  wnt : Wnt w0 w1 va vc W
  sbe : w1.heap.size = sb
  bel : Below sb w1 wr

theorem Sit.len {w0 w1 wr : World} {sb : Nat} {buy : Bool} {va : Option Addr} {vc : Nat} {W : List Int} {ds : List Nat} {M : Nat → Lv} {T : Tr} (h : Sit w0 w1 wr sb buy va vc W ds M T) : (io T).length = W.length := by
  rw [← h.pls, pl_len]
theorem Sit.below {w0 w1 wr : World} {sb : Nat} {buy : Bool} {va : Option Addr} {vc : Nat} {W : List Int} {ds : List Nat} {M : Nat → Lv} {T : Tr} (h : Sit w0 w1 wr sb buy va vc W ds M T) : Below w0.heap.size w0 wr := by
  have h1 := h.wnt.2
  refine h1.trans ⟨h.bel.os, h.bel.tape, h.bel.output, h.bel.size, fun k hk => h.bel.block k ?_⟩
  have := h1.size
  have := h.sbe
  omega
/-- The model's list lies in a row that is known whole. -/
theorem Sit.row {w0 w1 wr : World} {sb : Nat} {buy : Bool} {va : Option Addr} {vc : Nat} {W : List Int} {ds : List Nat} {M : Nat → Lv} {T : Tr} (h : Sit w0 w1 wr sb buy va vc W ds M T) (hp : 0 < W.length) :
    ∃ g cur, va = some ⟨g, 0, none⟩ ∧ g < sb ∧ wr.heap[g]? = some (.cells cur 25 (0, 0)) ∧ cur.toList.take W.length = am W := by
  obtain ⟨_, ⟨_, h0⟩ | ⟨g, cap, cur, e, hb, hg, h1, h2, h3, h4⟩⟩ := h.wnt.1
  · omega
  · obtain ⟨e1, e2⟩ : va = some ⟨g, 0, none⟩ ∧ vc = cap := by simpa using e
    have hlt : g < sb := by rw [← h.sbe]; exact (Array.getElem?_eq_some_iff.1 hg).1
    exact ⟨g, cur, e1, hlt, (h.bel.block g hlt).trans hg, by rw [Nat.mul_one] at h4; exact h4⟩

/-- Behind drop, Clone and Delete. -/
structure Aft (w0 wr : World) (sb : Nat) (buy : Bool) (l ge m : Nat) (v : Lv) (ds : List Nat) (M : Nat → Lv) (T : Tr) : Prop where
  side : Side wr sb buy none ds M T
  up : ∀ b, b ∈ ds → sb < b
  len : (io T).length = m
  exp : ∀ i, i < m → wr.cell? ⟨ge, i, none⟩ = some (.int .i64 ((pl M (io T)).getD i 0))
  lgt : ge < wr.heap.size
  lout : l ∉ io T
  lin : l ∈ ds
  lsame : M l = v
  bel : Below w0.heap.size w0 wr

structure Mid (w0 w5 : World) (sb : Nat) (buy : Bool) (l idx : Nat) (v : Lv) (W : List Int) (ds : List Nat) (M : Nat → Lv) (T : Tr) : Prop where
  side : Side w5 sb buy none ds M T
  up : ∀ b, b ∈ ds → sb < b
  lout : l ∉ io T
  lin : l ∈ ds
  lsame : M l = v
  pls : pl M (io T) = W.take idx ++ W.drop (idx + 1)
  bel : Below w0.heap.size w0 w5
  low : w0.heap.size ≤ sb

section
variable {w0 w1 wr w5 : World} {sb : Nat} {buy : Bool} {va : Option Addr} {vc : Nat} {W : List Int} {ds : List Nat} {M : Nat → Lv} {T : Tr} {l idx : Nat} {v : Lv}
theorem Mid.of {w6 : World} (h : Mid w0 w5 sb buy l idx v W ds M T) (hb : ∀ k, k < w5.heap.size → w6.heap[k]? = w5.heap[k]?) (hbel : Below w0.heap.size w0 w6) : Mid w0 w6 sb buy l idx v W ds M T := by
  refine ⟨h.side.of (fun k hk => hb k ?_), h.up, h.lout, h.lin, h.lsame, h.pls, hbel, h.low⟩
  rcases List.mem_cons.1 hk with rfl | hk
  · exact h.side.lt
  · exact (h.side.lvs k hk).lt

theorem Sit.dropped (h : Sit w0 w1 wr sb buy va vc W ds M T) (hW : W.length ≤ 4200) (hl : (io T).reverse[idx]? = some l) (q : Nat) :
    Calls Yba.prog 8 #[.pointer (some ⟨sb, 0, none⟩), .pointer (some ⟨l, 0, none⟩)] (wr.drewN q) fun e w5 => e = .returned (.tuple #[]) ∧ (∃ M' T', Mid w0 w5 sb buy l idx (M l) W ds M' T') ∧ ∀ k, k < sb → w5.heap[k]? = wr.heap[k]? := by
  obtain ⟨xs, ys, e0, ey⟩ := at_rev hl
  have hn : (xs ++ l :: ys).Nodup := by rw [← e0]; exact h.side.srt.nodup
  have hlx : l ∉ xs ++ ys := (List.nodup_cons.1 ((List.perm_middle.nodup_iff).1 hn)).1
  have hlen := h.len
  refine (drop_c (h.side.drewN q) e0 (by omega)).mono ?_
  rintro e w5 ⟨rfl, M', T', hs, hio, hMl, hd, hk⟩
  have hkb : ∀ k, k < sb → w5.heap[k]? = wr.heap[k]? := fun k hk' => hk.block k (fun hc => by
    rcases List.mem_cons.1 hc with e | e
    · omega
    · have := h.up k e; omega)
  refine ⟨rfl, ⟨M', T', hs, h.up, by rw [hio]; exact hlx, h.side.sub l (by rw [e0]; simp), hMl, ?_, ?_, ?_⟩, hkb⟩
  · rw [hio, pl_congr (M := M) (fun b _ => congrArg (fun t => t.1) (hd b)), pl_drop M xs ys l, ← e0, h.pls, ey]
  · have h1 := h.below
    have h2 : w0.heap.size ≤ sb := by rw [← h.sbe]; exact h.wnt.2.size
    exact h1.trans ⟨hk.os, hk.tape, hk.output, by rw [hk.size]; exact Nat.le_refl _, fun k hk' => hkb k (by omega)⟩
  · rw [← h.sbe]; exact h.wnt.2.size

theorem Mid.clone (h : Mid w0 w5 sb buy l idx v W ds M T) {g : Nat} {cur : Array Value} (hg : w5.heap[g]? = some (.cells cur 25 (0, 0))) (ht : cur.toList.take W.length = am W) (hp : 0 < W.length) (hW : W.length ≤ 4200) :
    Calls Yba.prog 10 #[.slice (some ⟨g, 0, none⟩) W.length vc] w5 fun e w6 => ∃ g' cap', e = .returned (.slice (some ⟨g', 0, none⟩) W.length cap') ∧ Mid w0 w6 sb buy l idx v W ds M T ∧ w5.heap.size ≤ g' ∧ ∃ cur, w6.heap[g']? = some (.cells cur 25 (0, 0)) ∧ cur.size = cap' ∧ W.length ≤ cap' ∧ cap' ≤ maxLen ∧ cur.toList.take W.length = am W := by
  refine (clone_c g W.length vc (am W) cur.toList w5 (by simpa using hg) ht (by simp [am]) (am_one W) hp (by omega)).mono ?_
  rintro e w6 ⟨v', rfl, hown, hb⟩
  have hb6 : Below w0.heap.size w0 w6 := h.bel.trans ⟨hb.os, hb.tape, hb.output, hb.size, fun k hk => hb.block k (by have := h.bel.size; omega)⟩
  obtain ⟨_, ⟨_, h0⟩ | ⟨g', cap, cur', rfl, hb', hg', h1, h2, h3, h4⟩⟩ := hown
  · omega
  · exact ⟨g', cap, rfl, h.of hb.block hb6, hb', cur', hg', by omega, h1, h2, by rw [Nat.mul_one] at h4; exact h4⟩

theorem Mid.delete {w6 : World} (h : Mid w0 w6 sb buy l idx v W ds M T) {g cap : Nat} {cur : Array Value} (hg : w6.heap[g]? = some (.cells cur 25 (0, 0))) (hgo : g ∉ sb :: ds) (hgb : w0.heap.size ≤ g) (hcs : cur.size = cap) (hc1 : W.length ≤ cap) (hc2 : cap ≤ maxLen) (ht : cur.toList.take W.length = am W) (hi : idx < W.length) :
    Calls Yba.prog 9 #[.slice (some ⟨g, 0, none⟩) W.length cap, .int .i64 idx, .int .i64 ((idx : Int) + 1)] w6 fun e w7 => e = .returned (.slice (some ⟨g, 0, none⟩) (W.length - 1) cap) ∧ Aft w0 w7 sb buy l g (W.length - 1) v ds M T := by
  refine (delete_c g W.length idx cap (am W) cur.toList w6 (by simpa using hg) (by simpa using hcs) ht (am_one W) hi hc1 hc2).mono ?_
  rintro e w7 ⟨rfl, ⟨R, hR, hRt⟩, hk⟩
  have hlen : (io T).length = W.length - 1 := by
    rw [← pl_len M, h.pls]; simp; omega
  refine ⟨rfl, h.side.of (fun k hk' => hk.block k (fun hc => hgo (by rw [← List.mem_singleton.1 hc]; exact hk'))), h.up, hlen, ?_, ?_, h.lout, h.lin, h.lsame, ?_⟩
  · intro i hi'
    have e : am (pl M (io T)) = R.toList.take (W.length - 1) := by rw [hRt, h.pls]; simp [am]
    have e2 : (am (pl M (io T)))[i]? = R[i]? := by
      rw [e, List.getElem?_take, if_pos hi']; simp
    have e3 := am_get (W := pl M (io T)) (i := i) (by rw [pl_len]; omega)
    rw [e2] at e3
    simp [World.cell?, hR, e3]
  · exact (Array.getElem?_eq_some_iff.1 hR).1
  · exact h.bel.trans (kept_below hk hgb)
end
end Go.Proofs.Ybulkdilg
