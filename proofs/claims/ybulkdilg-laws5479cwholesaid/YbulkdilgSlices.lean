import Derived.Test.YbulkdilgWalk
import Derived.WalkKit
import Derived.WalkSpells
import Derived.WalkSmall
import Derived.ProofKit
import Derived.Below
import Derived.OwnWalk
import Derived.Laws.CopyOwn
import Derived.Deep.AppendLies
import Derived.Shelf.Spec.SlicesInsertGrow
namespace Go.Proofs.Ybulkdilg
open Go.RowKit Go.Lib
set_option linter.unusedVariables false
set_option linter.unusedSimpArgs false
set_option linter.unnecessarySimpa false

theorem info25 : (Yba.prog.info? 25).map (fun i => (i.zero, i.size, i.bytes)) = some (some (.int .i64 0), 1, 8) := by kernel_rfl
theorem size25 : (Yba.prog.info? 25).map (·.size) = some 1 := by kernel_rfl

theorem below_grown {base : Nat} {w w' : World} {v : Value} (hg : w.grownBy w' v.ownBlock) (hv : ∀ k, v.ownBlock = some k → base ≤ k) (hb : base ≤ w.heap.size) : Below base w w' :=
  ⟨hg.os, hg.tape, hg.output, hg.size, fun k hk => hg.block k (by omega) (fun e => by have := hv k e.symm; omega)⟩

set_option maxHeartbeats 1000000 in
theorem ins_end (base n : Nat) (v : Value) (xs : List Value) (a : Int) (B : Nat) (w : World) (hown : w.ownsRow base 25 1 v n xs) (hn : n ≤ 5000) (hB : w.heap[B]? = some (.cells #[.int .i64 a] 25 (0, 0))) (hbs : base ≤ w.heap.size) :
    Calls Yba.prog 5 #[v, .int .i64 n, .slice (some ⟨B, 0, none⟩) 1 1] w fun e w' => ∃ v', e = .returned v' ∧ w'.ownsRow base 25 1 v' (n + 1) (xs ++ [.int .i64 a]) ∧ Below base w w' := by
  obtain ⟨i0, hi0, hz0, hz1, hz2⟩ := info_parts info25
  have hO := hid hown
  have hBB := hid (World.news_of_block hB)
  have hv : Hid (∀ k, v.ownBlock = some k → base ≤ k) := fun k hk => (hown.lt k hk).1
  obtain ⟨_, ⟨rfl, rfl⟩ | ⟨g, cap, cur, rfl, hg, hgc, hnc, hcm, _, _⟩⟩ := hown
  · clear hB
    go_enter Yba.func5, Yba.ntmps5
    go_wp2_with (at_builtin; refine wpList_append_lies _ rfl (.tmp 23) (.tmp 24) 24 rfl base 25 i0 (.int .i64 0) 1 8 Yba.underlying24 hi0 hz0 hz1 hz2 rfl (by decide) (.slice none 0 0) 0 xs rfl hO.out ⟨B, 0, none⟩ 1 1 [.int .i64 a] rfl rfl hBB.out (by simp [Value.oneCell']) (by decide) (by unfold maxLen; omega) (by omega) hbs w.heap.size rfl ?_)
    intro g cap w2 hown hgrow hat hlt
    go_wp2
    go_ret
    exact ⟨_, rfl, hown, below_grown hgrow hv.out hbs⟩
  · unfold maxLen at hcm
    clear hB hgc
    go_enter Yba.func5, Yba.ntmps5
    go_wp2_with (at_builtin; refine wpList_append_lies _ rfl (.tmp 23) (.tmp 24) 24 rfl base 25 i0 (.int .i64 0) 1 8 Yba.underlying24 hi0 hz0 hz1 hz2 rfl (by decide) (.slice (some ⟨g, 0, none⟩) n cap) n xs rfl hO.out ⟨B, 0, none⟩ 1 1 [.int .i64 a] rfl rfl hBB.out (by simp [Value.oneCell']) (by decide) (by unfold maxLen; omega) (by omega) hbs w.heap.size rfl ?_)
    all_goals
      intro g cap w2 hown hgrow hat hlt
      go_wp2
      go_ret
      exact ⟨_, rfl, hown, below_grown hgrow hv.out hbs⟩

theorem add_at (b off j : Nat) : (⟨b, off, none⟩ : Addr).add j = ⟨b, off + j, none⟩ := by
  unfold Addr.add; split <;> simp_all
theorem sizeOf25 (w : World) : (Go.sizeOf 25).run Yba.prog w = .ok 1 w := by
  obtain ⟨i0, hi0, hz0, hz1, hz2⟩ := info_parts info25
  simp [Go.sizeOf, typeInfo, Sem.run, hi0, hz1]

theorem copy_run (w : World) (g off dLen : Nat) (ad : Addr) (sLen : Nat) (cur cs : List Value) (hg : w.heap[g]? = some (.cells cur.toArray 25 (0, 0))) (hn : cs.length = Nat.min sLen dLen)
    (hsrc : ∀ j v, cs[j]? = some v → w.cell? (ad.add j) = some v) (hfit : off + cs.length ≤ cur.length) (h1 : ∀ v ∈ cs, v.oneCell' = true) :
    ∃ W, (∀ ty dc sc, (Builtin.copy_ #[24, 24] ty #[.slice (some ⟨g, off, none⟩) dLen dc, .slice (some ad) sLen sc]).run Yba.prog w = .ok (goInt cs.length) W) ∧ W.heap[g]? = some (.cells (splice cur off cs).toArray 25 (0, 0)) ∧ Kept [g] w W := by
  refine ⟨_, fun ty dc sc => run_copy_row (P := Yba.prog) w 24 24 ty 25 g off dLen dc ad sLen sc cur.toArray 25 cs Yba.underlying24 size25 hg hn hsrc (by simpa using hfit) h1, ?_, rfl, rfl, rfl, by simp [World.setRow], fun k hk => setRow_other w g k _ (fun e => hk (by simp [e]))⟩
  simpa [splice] using setRow_heap w g _ _ 25 _ hg

set_option maxHeartbeats 2000000 in
theorem ins_shift (base n i g cap : Nat) (xs cur : List Value) (a : Int) (B : Nat) (w : World) (hg : base ≤ g) (hgc : w.heap[g]? = some (.cells cur.toArray 25 (0, 0))) (hcs : cur.length = cap) (htk : cur.take n = xs) (h1 : ∀ u ∈ xs, u.oneCell' = true)
    (hi : i < n) (hroom : n + 1 ≤ cap) (hcm : cap ≤ maxLen) (hB : w.heap[B]? = some (.cells #[.int .i64 a] 25 (0, 0))) (hBg : B ≠ g) :
    Calls Yba.prog 5 #[.slice (some ⟨g, 0, none⟩) n cap, .int .i64 i, .slice (some ⟨B, 0, none⟩) 1 1] w fun e w' => e = .returned (.slice (some ⟨g, 0, none⟩) (n + 1) cap) ∧ w'.heap[g]? = some (.cells (splice (splice cur (i + 1) (xs.drop i)) i [.int .i64 a]).toArray 25 (0, 0)) ∧ Kept [g] w w' := by
  unfold maxLen at hcm
  have hlx : xs.length = n := by rw [← htk, List.length_take]; omega
  have hBlt : B < w.heap.size := (Array.getElem?_eq_some_iff.1 hB).1
  have hov : ∀ lb cb, (callFunc 12 #[.slice (some ⟨B, 0, none⟩) 1 1, .slice (some ⟨g, i + 1, none⟩) lb cb]).run Yba.prog w = .ok (.value (.bool false)) w := fun lb cb => by
    rw [run_callFunc_extern Yba.func12 (by kernel_rfl) (by kernel_rfl) (by kernel_rfl) (e := Extern.SlicesOverlaps.overlaps #[24, 24] #[4]) (by kernel_rfl),
      Lib.run_overlaps_apart w 24 4 25 Yba.underlying24 1 sizeOf25 ⟨B, 0, none⟩ ⟨g, i + 1, none⟩ 1 1 lb cb hBg 25 25 1 cap (by simp [World.shape?, hB]) (by simp [World.shape?, hgc, hcs]) (by omega) (by simp [World.frozen?, hB]) (by simp [World.frozen?, hB])]
    rfl
  have hw1 : IntKind.i64.wrap ((i : Int) + 1) = (i : Int) + 1 := by rw [IntKind.wrap_i64]; omega
  have hz2 : ¬ ((i : Int) = (n : Int)) := by omega
  have htn : ((i : Int) + 1).toNat = i + 1 := by omega
  have hb2 : ¬ (cap = i + 1) := by omega
  have hb4 : ¬ (cap = i) := by omega
  have hin : i ≤ n := by omega
  have hb1 : (0 : Int) ≤ (i : Int) + 1 := by omega
  have hb3 : (i : Int) ≤ (n : Int) + 1 := by omega
  have hb5 : i ≤ n + 1 := by omega
  obtain ⟨X2, hX2⟩ : ∃ X2, X2 = xs.drop i := ⟨_, rfl⟩
  have hXl : X2.length = n - i := by rw [hX2, List.length_drop, hlx]
  rw [← hX2]
  have hsrc : Hid (∀ j v, X2[j]? = some v → w.cell? ((⟨g, i, none⟩ : Addr).add j) = some v) := fun j v hj => by
    rw [add_at]
    rw [hX2, List.getElem?_drop, ← htk, List.getElem?_take] at hj
    split at hj
    · simp [World.cell?, hgc, hj]
    · cases hj
  have h1' : Hid (∀ u ∈ X2, u.oneCell' = true) := fun u hu => h1 u (by rw [hX2] at hu; exact List.mem_of_mem_drop hu)
  obtain ⟨W1, hr1, hg1, hk1⟩ := copy_run w.drew g (i + 1) (n - i) ⟨g, i, none⟩ (n + 1 - i) cur X2 hgc (by rw [hXl]; simp only [Nat.min_def]; split <;> omega) hsrc.out (by rw [hXl, hcs]; omega) h1'.out
  have hB1 : W1.heap[B]? = some (.cells #[.int .i64 a] 25 (0, 0)) := (hk1.block B (by simp [hBg])).trans hB
  obtain ⟨W2, hr2, hg2, hk2⟩ := copy_run W1 g i (n + 1 - i) ⟨B, 0, none⟩ 1 (splice cur (i + 1) X2) [.int .i64 a] hg1 (by simp only [Nat.min_def, List.length_singleton]; split <;> omega) (World.news_of_block hB1) (by rw [length_splice _ _ _ (by rw [hXl, hcs]; omega)]; simp; omega) (by simp [Value.oneCell'])
  have hK : Hid (W2.heap[g]? = some (.cells (splice (splice cur (i + 1) X2) i [.int .i64 a]).toArray 25 (0, 0)) ∧ Kept [g] w W2) := ⟨hg2, ((Kept.refl [g] w).drewN 1).trans (hk1.trans hk2)⟩
  clear hgc hB h1 htk hX2 hg1 hB1 hk1 hg2 hk2 hsrc h1'
  go_enter Yba.func5, Yba.ntmps5
  go_wp2_with (simp only [hov])
  go_region_law (refine step_copy_runI rfl (.tmp 73) (.tmp 76) 24 24 rfl _ _ (by simp [Act.eval, Act.put]) (by simp [Act.eval, Act.put]) (hr1 _ _ _) ?_)
  go_wp2_with (at_builtin; refine wpList_copy_runI _ rfl (.tmp 80) (.tmp 81) 24 24 rfl _ _ rfl rfl (hr2 _ _ _) ?_)
  go_ret
  exact ⟨rfl, hK.out⟩

theorem sp1 {α : Type} (L cs : List α) (off : Nat) (h : off + cs.length ≤ L.length) : (splice L off cs).take (off + cs.length) = L.take off ++ cs := by
  unfold splice
  rw [← List.append_assoc]
  exact List.take_left' (by simp; omega)
theorem sp2 {α : Type} (L cs : List α) (off : Nat) (h : off ≤ L.length) : (splice L off cs).drop off = cs ++ L.drop (off + cs.length) := by
  unfold splice
  exact List.drop_left' (by simp; omega)
theorem sp3 {α : Type} (L cs : List α) (off k : Nat) (h : off ≤ L.length) (hk : k ≤ off) : (splice L off cs).take k = L.take k := by
  unfold splice
  rw [List.take_append_of_le_length (by simp; omega), List.take_take, Nat.min_eq_left hk]
theorem sp_shift {α : Type} (cur X2 : List α) (a : α) (i n : Nat) (hi : i < n) (hX : X2.length = n - i) (hc : n + 1 ≤ cur.length) : (splice (splice cur (i + 1) X2) i [a]).take (n + 1) = cur.take i ++ a :: X2 := by
  have hl : (splice cur (i + 1) X2).length = cur.length := length_splice _ _ _ (by omega)
  have e : splice (splice cur (i + 1) X2) i [a] = (cur.take i ++ a :: X2) ++ cur.drop (i + 1 + X2.length) := by
    unfold splice
    rw [show (cur.take (i + 1) ++ (X2 ++ cur.drop (i + 1 + X2.length))).take i = cur.take i from sp3 cur X2 (i + 1) i (by omega) (by omega)]
    rw [show (cur.take (i + 1) ++ (X2 ++ cur.drop (i + 1 + X2.length))).drop (i + [a].length) = X2 ++ cur.drop (i + 1 + X2.length) from sp2 cur X2 (i + 1) (by omega)]
    simp
  rw [e]
  exact List.take_left' (by simp; omega)
theorem sp_grow {α : Type} (R X2 : List α) (a : α) (i n : Nat) (hi : i < n) (hX : X2.length = n - i) (hc : n + 1 ≤ R.length) : (splice (splice R i [a]) (i + 1) X2).take (n + 1) = R.take i ++ a :: X2 := by
  have hl : (splice R i [a]).length = R.length := length_splice _ _ _ (by simp; omega)
  have e := sp1 (splice R i [a]) X2 (i + 1) (by omega)
  rw [show i + 1 + X2.length = n + 1 by omega] at e
  rw [e]
  have e2 := sp1 R [a] i (by simp; omega)
  rw [show i + [a].length = i + 1 from rfl] at e2
  rw [e2]; simp

set_option maxHeartbeats 2000000 in
theorem ins_grow (base n i g cap : Nat) (xs cur : List Value) (a : Int) (B : Nat) (w : World) (hg : base ≤ g) (hgc : w.heap[g]? = some (.cells cur.toArray 25 (0, 0))) (hcs : cur.length = cap) (htk : cur.take n = xs) (h1 : ∀ u ∈ xs, u.oneCell' = true)
    (hi : i < n) (hnc : n ≤ cap) (hroom : cap < n + 1) (hn : n ≤ 5000) (hB : w.heap[B]? = some (.cells #[.int .i64 a] 25 (0, 0))) :
    Calls Yba.prog 5 #[.slice (some ⟨g, 0, none⟩) n cap, .int .i64 i, .slice (some ⟨B, 0, none⟩) 1 1] w fun e w' => ∃ G R, e = .returned (.slice (some ⟨w.heap.size, 0, none⟩) (n + 1) G) ∧ w'.heap[w.heap.size]? = some (.cells R 25 (0, 0)) ∧ R.size = G ∧ n + 1 ≤ G ∧ G ≤ maxLen ∧ R.toList.take (n + 1) = xs.take i ++ .int .i64 a :: xs.drop i ∧ Below w.heap.size w w' := by
  have hlx : xs.length = n := by rw [← htk, List.length_take]; omega
  have hBlt : B < w.heap.size := (Array.getElem?_eq_some_iff.1 hB).1
  have hglt : g < w.heap.size := (Array.getElem?_eq_some_iff.1 hgc).1
  obtain ⟨i0, hi0, hz0, hz1, hz2⟩ := info_parts info25
  have hxc : ∀ j v, xs[j]? = some v → w.cell? ⟨g, j, none⟩ = some v := fun j v hj => by
    rw [← htk, List.getElem?_take] at hj
    split at hj
    · simp [World.cell?, hgc, hj]
    · cases hj
  have hold : (Builtin.firstCells i0.size i (.slice (some ⟨g, 0, none⟩) i cap)).run Yba.prog w.drew = .ok (xs.take i).toArray w.drew := by
    rw [hz1]
    exact run_firstCells_some w.drew 1 i ⟨g, 0, none⟩ i cap (xs.take i) (by rw [List.length_take]; omega) (fun j v hj => by
      rw [add_at, Nat.zero_add]
      rw [List.getElem?_take] at hj
      split at hj
      · exact hxc j v hj
      · cases hj)
  have hkk : (n : Int) + 1 - (i : Int) = ((n + 1 - i : Nat) : Int) := by omega
  have hik : i + (n + 1 - i) = n + 1 := by omega
  have hrz : ∀ ty, (Builtin.append_ #[24, 3] ty #[.slice (some ⟨g, 0, none⟩) i cap, .int .i64 ((n : Int) + 1 - (i : Int))]).run Yba.prog w =
      .ok (.slice (some ⟨w.heap.size, 0, none⟩) (n + 1) (grownCap w (n + 1) cap 25)) (w.drew.alloc (.cells ((xs.take i).toArray ++ Builtin.zeroCells (Value.int .i64 0).cells (n + 1 - i) ++ Builtin.zeroCells (Value.int .i64 0).cells (grownCap w (n + 1) cap 25 - (n + 1))) 25)) := fun ty => by
    have h := Lib.run_append_grow_zeros w 24 3 ty 25 i0 _ .i64 .i64 Yba.underlying24 Yba.underlying3 hi0 hz0 (some ⟨g, 0, none⟩) i cap (xs.take i) hold (n + 1 - i) (by omega) (by omega) (by omega) (by omega) (by rw [hz2]; omega) (by rw [hz2, hik]; exact growslice_fits hroom (by omega))
    rw [hik] at h
    rw [hkk]
    exact h
  obtain ⟨G, hG⟩ : ∃ G, G = grownCap w (n + 1) cap 25 := ⟨_, rfl⟩
  rw [← hG] at hrz
  have hGn : n + 1 ≤ G := by rw [hG]; exact grownCap_ge w _ _ _
  have hGm : G ≤ maxLen := by rw [hG]; exact grownCap_le_maxLen w (n + 1) cap 25 (by unfold maxLen; omega)
  obtain ⟨R, hR⟩ : ∃ R : List Value, R.toArray = (xs.take i).toArray ++ Builtin.zeroCells (Value.int .i64 0).cells (n + 1 - i) ++ Builtin.zeroCells (Value.int .i64 0).cells (G - (n + 1)) := ⟨_, Array.toArray_toList⟩
  rw [← hR] at hrz
  have hRl : R.length = G := by
    have : R.toArray.size = G := by rw [hR]; simp [Builtin.zeroCells, Value.cells]; omega
    simpa using this
  have hRt : R.take i = xs.take i := by
    have : R = (xs.take i) ++ ((Builtin.zeroCells (Value.int .i64 0).cells (n + 1 - i)).toList ++ (Builtin.zeroCells (Value.int .i64 0).cells (G - (n + 1))).toList) := by
      have h := congrArg Array.toList hR
      simpa using h
    rw [this]
    exact List.take_left' (by rw [List.length_take]; omega)
  obtain ⟨W1, hW1⟩ : ∃ W1, W1 = w.drew.alloc (.cells R.toArray 25) := ⟨_, rfl⟩
  rw [← hW1] at hrz
  have hN1 : W1.heap[w.heap.size]? = some (.cells R.toArray 25 (0, 0)) := by rw [hW1]; exact heap_alloc_new w.drew _
  have hO1 : ∀ k, k < w.heap.size → W1.heap[k]? = w.heap[k]? := fun k hk => by rw [hW1]; exact Below.heap_alloc w.drew _ _ hk
  have hb1 : Below w.heap.size w W1 := ⟨by rw [hW1]; rfl, by rw [hW1]; rfl, by rw [hW1]; rfl, by rw [hW1, ← World.alloc_eq]; simp, hO1⟩
  have hB1 : W1.heap[B]? = some (.cells #[.int .i64 a] 25 (0, 0)) := (hO1 B hBlt).trans hB
  obtain ⟨W2, hr2, hg2, hk2⟩ := copy_run W1 w.heap.size i (n + 1 - i) ⟨B, 0, none⟩ 1 R [.int .i64 a] hN1 (by simp only [Nat.min_def, List.length_singleton]; split <;> omega) (World.news_of_block hB1) (by simp; omega) (by simp [Value.oneCell'])
  obtain ⟨X2, hX2⟩ : ∃ X2, X2 = xs.drop i := ⟨_, rfl⟩
  have hXl : X2.length = n - i := by rw [hX2, List.length_drop, hlx]
  have hg22 : W2.heap[g]? = some (.cells cur.toArray 25 (0, 0)) := (hk2.block g (by simp; omega)).trans ((hO1 g hglt).trans hgc)
  have hsrc : ∀ j v, X2[j]? = some v → W2.drew.cell? ((⟨g, i, none⟩ : Addr).add j) = some v := fun j v hj => by
    rw [add_at]
    rw [hX2, List.getElem?_drop, ← htk, List.getElem?_take] at hj
    show W2.cell? _ = _
    split at hj
    · simp [World.cell?, hg22, hj]
    · cases hj
  obtain ⟨W3, hr3, hg3, hk3⟩ := copy_run W2.drew w.heap.size (i + 1) (n - i) ⟨g, i, none⟩ (n - i) (splice R i [.int .i64 a]) X2 hg2 (by rw [hXl]; simp only [Nat.min_def]; split <;> omega) hsrc (by rw [hXl, length_splice _ _ _ (by simp; omega)]; omega) (fun u hu => h1 u (by rw [hX2] at hu; exact List.mem_of_mem_drop hu))
  have hK : Hid (W3.heap[w.heap.size]? = some (.cells (splice (splice R i [.int .i64 a]) (i + 1) X2).toArray 25 (0, 0)) ∧ Below w.heap.size w W3) := by
    refine ⟨hg3, hb1.trans ?_⟩
    have kk : Kept [w.heap.size] W1 W3 := hk2.trans (((Kept.refl _ W2).drewN 1).trans hk3)
    exact ⟨kk.os, kk.tape, kk.output, by rw [kk.size]; exact Nat.le_refl _, fun k hk => kk.block k (by simp; omega)⟩
  have hS := hid (sp_grow R X2 (.int .i64 a) i n hi hXl (by omega))
  have hL : Hid ((splice (splice R i [.int .i64 a]) (i + 1) X2).length = G) := by
    show _ = _
    rw [length_splice _ _ _ (by rw [hXl, length_splice _ _ _ (by simp; omega)]; omega), length_splice _ _ _ (by simp; omega)]
    exact hRl
  have hT := hid hRt
  rw [← hX2]
  have hGm' : G ≤ 9223372036854775807 := hGm
  have hz2 : ¬ ((i : Int) = (n : Int)) := by omega
  have hz3 : (cap : Int) < (n : Int) + 1 := by omega
  have hw1 : IntKind.i64.wrap ((i : Int) + 1) = (i : Int) + 1 := by rw [IntKind.wrap_i64]; omega
  have hb1' : (0 : Int) ≤ (i : Int) + 1 := by omega
  have hin : i ≤ n := by omega
  have htn : ((i : Int) + 1).toNat = i + 1 := by omega
  have hGi : ¬ (G = i) := by omega
  have hGim : ¬ (G = i + 1) := by omega
  have hci : ¬ (cap = i) := by omega
  have hb3 : (i : Int) ≤ (n : Int) := by omega
  clear hkk hik hold hR hG hRl hRt hW1 hN1 hO1 hb1 hB1 hg2 hk2 hX2 hg22 hsrc hg3 hk3 hgc hB h1 htk hxc
  go_enter Yba.func5, Yba.ntmps5
  go_wp2_with (first
    | (at_builtin; refine Lib.wpList_append_run _ rfl (.tmp 34) (.tmp 39) _ _ rfl _ _ rfl rfl _ _ (hrz _) ?_)
    | (at_builtin; refine wpList_copy_runI _ rfl (.tmp 43) (.tmp 44) 24 24 rfl _ _ rfl rfl (hr2 _ _ _) ?_))
  go_region_law (refine step_copy_runI rfl (.tmp 50) (.tmp 53) 24 24 rfl _ _ (by simp [Act.eval, Act.put]) (by simp [Act.eval, Act.put]) (hr3 _ _ _) ?_)
  go_wp2
  go_ret
  exact ⟨G, _, rfl, hK.out.1, by simpa using hL.out, hGn, hGm, by simpa [hT.out] using hS.out, hK.out.2⟩
end Go.Proofs.Ybulkdilg
