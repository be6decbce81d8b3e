import Derived.Test.YbulkdiksCommon
namespace Go.Proofs.Ybulkdiks
open Go.RowKit
set_option linter.unusedVariables false
set_option linter.unusedSimpArgs false
set_option maxRecDepth 100000

set_option maxHeartbeats 4000000 in
theorem loop3 (a0 a1 a2 : Option Addr) (n l1 l2 c0 c1 c2 : Nat) (T : Nat → Bool) (hz pz : Nat → Nat) (w : World) (bM bS bA bP B0 : Nat) (h0 : n ≤ 4096) (h1 : l1 ≤ 4096) (h2 : l2 ≤ 4096) (K : Nat → Nat) (V : Nat → Value) (hn0 : 0 < n) (R : Ending → World → Prop) (Q : Exit → Act → World → Prop) (w2 : World) (hH : Hid (Src w a1 l1 (fun i => .int .u8 (hz i)))) (hzb : Hid (∀ i, hz i < 256)) (hv : Value)
    (hr : Sit w w2 w.heap.size bM bS bA bP B0 n n n (tA T n) K V (LA (PP l2 pz) (.pointer (some ⟨w.heap.size, 0, none⟩))) (pA (PP l2 pz) n) hv ((HS n 0 hz).map (fun i => .pointer (some ⟨K i, 0, none⟩))) [])
    (HQ : Hid (∀ (a : Act) (wr : World) (hv : Value), Sit w wr w.heap.size bM bS bA bP B0 n n n (tA T n) K V (LA (PP l2 pz) (.pointer (some ⟨w.heap.size, 0, none⟩))) (pA (PP l2 pz) n) hv ((HS n l1 hz).map (fun i => .pointer (some ⟨K i, 0, none⟩))) [] → a = fC a0 a1 a2 n l1 l2 c0 c1 c2 w.heap.size bM bA bP (.slice a1 l1 c1) (.int .i64 l1) (.int .i64 l1) (sl a) → Q (.exit 4) a wr))
    (a : Act) (ha : a = fC a0 a1 a2 n l1 l2 c0 c1 c2 w.heap.size bM bA bP (.slice a1 l1 c1) (.int .i64 l1) (.int .i64 (0 : Nat)) (sl a)) : Code.wp Yba.prog ((Yba.f3.body.bind (findLoop 24)).getD .skip) (QQ R Q) a w2 := by
  conv => arg 2; whnf
  refine wp_loop_hand (X := Nat) (fun q a wr => ∃ (hv : Value), q ≤ l1 ∧ Sit w wr w.heap.size bM bS bA bP B0 n n n (tA T n) K V (LA (PP l2 pz) (.pointer (some ⟨w.heap.size, 0, none⟩))) (pA (PP l2 pz) n) hv ((HS n q hz).map (fun i => .pointer (some ⟨K i, 0, none⟩))) [] ∧ a = fC a0 a1 a2 n l1 l2 c0 c1 c2 w.heap.size bM bA bP (.slice a1 l1 c1) (.int .i64 l1) (.int .i64 q) (sl a)) (fun q => l1 - q) 0 ⟨hv, Nat.zero_le _, hr, ha⟩ ?_
  clear hr ha a w2 hv
  rintro q a wr ⟨hv, hq, hr, ha⟩ Kc hK3
  obtain ⟨U, rfl⟩ : ∃ U, a = fC a0 a1 a2 n l1 l2 c0 c1 c2 w.heap.size bM bA bP (.slice a1 l1 c1) (.int .i64 l1) (.int .i64 q) U := ⟨_, ha⟩
  clear ha
  unfold fC
  by_cases hql : q < l1
  · obtain ⟨bh, oh, rfl, hbh, hch⟩ := hH.out (by omega)
    have ch := (hr.below.cell (p := ⟨bh, oh + q, none⟩) hbh).trans (hch q hql)
    have hzq := hzb.out q
    clear hch
    have c3 := hr.acc.cell3
    have f3 := hr.acc.free 3
    obtain ⟨x, hx⟩ : ∃ x, x = hz q := ⟨_, rfl⟩
    simp only [] at ch
    rw [← hx] at ch hzq
    obtain ⟨y, hy⟩ : ∃ y, y = x % n := ⟨_, rfl⟩
    have hyn : y < n := by rw [hy]; exact Nat.mod_lt _ hn0
    have hyi : (y : Int) < (n : Int) := by omega
    have cM := hr.ms.cell hyn
    rw [if_pos hyn] at cM
    have hn1 : ¬ n = 0 := by omega
    have hwr : IntKind.i64.wrap (x : Int) = (x : Int) := by rw [IntKind.wrap_i64]; omega
    have htm : (x : Int).tmod (n : Int) = (y : Int) := by rw [hy]; rfl
    have HX := hid hx
    have HY := hid hy
    clear hx hy
    obtain ⟨i0, hi0, hz0, hz1, hz2⟩ := info_parts info46
    have c3a : (wr.alloc (.cells #[.pointer (some ⟨K y, 0, none⟩)] 46)).cell? ⟨bA, 3, none⟩ = some hv := (World.cell?_alloc_past _ _ _ hr.acc.lt).trans c3
    have O := hid (hr.hold.alloc (.cells #[.pointer (some ⟨K y, 0, none⟩)] 46))
    have N := hid (cell_one_new wr (.pointer (some ⟨K y, 0, none⟩)) 46)
    have hB := hr.o6
    have hlen := HS_len n q hz
    have HL := hid hlen
    clear hlen
    go_wp2_with fail
    go_region_law (refine step_append_lies _ rfl (.tmp 120) (.tmp 128) 27 rfl B0 46 i0 (.pointer none) 1 8 Yba.underlying27 hi0 hz0 hz1 hz2 rfl (by decide) hv ((HS n q hz).map (fun i => Value.pointer (some ⟨K i, 0, none⟩))).length ((HS n q hz).map (fun i => .pointer (some ⟨K i, 0, none⟩))) (by simp [Act.eval, Act.put]) (by exact O.out) ⟨wr.heap.size, 0, none⟩ 1 1 [.pointer (some ⟨K y, 0, none⟩)] (by simp [Act.eval, Act.put]) rfl (by exact N.out) (by simp [Value.oneCell']) (by decide) (by rw [List.length_map, HL.out]; unfold maxLen; omega) (by rw [List.length_map, HL.out]; omega) (by simp; omega) (wr.heap.size + 1) (by simp) ?_; intro g cap w3 hown hgrow hat hlg; replace hgrow := undrew hgrow; have A3 := hr.accAfter _ hgrow; have c3' := A3.cell3; have f3' := A3.free 3; clear A3)
    all_goals
      have fin := hr.held (.pointer (some ⟨K y, 0, none⟩)) _ (g := g) (cap := cap) (w2 := w3) (by simpa using hown) hgrow hat
      clear hi0 hz0 hz1 hz2 O N hown hgrow hat hlg c3 c3' c3a f3 f3' hwr htm
      have e : (HS n (q + 1) hz).map (fun i => Value.pointer (some ⟨K i, 0, none⟩)) = (HS n q hz).map (fun i => Value.pointer (some ⟨K i, 0, none⟩)) ++ [.pointer (some ⟨K y, 0, none⟩)] := by
        rw [HS_succ, List.map_append, ← HX.out, ← HY.out]; rfl
      rw [← e] at fin
      simp only [List.length_map] at fin
      clear e
      go_wp2
      exact hK3.out (q + 1) _ _ ⟨_, by omega, fin, rfl⟩ (by omega)
  · obtain rfl : q = l1 := by omega
    clear hK3
    go_wp2_with fail
    exact HQ.out _ _ hv hr rfl
end Go.Proofs.Ybulkdiks
