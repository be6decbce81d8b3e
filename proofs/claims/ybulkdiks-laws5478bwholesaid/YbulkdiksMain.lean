import Derived.Test.YbulkdiksCommon
import Derived.Test.YbulkdiksL1
import Derived.Test.YbulkdiksL3
import Derived.Test.YbulkdiksL4
import Derived.Test.YbulkdiksL5
namespace Go.Proofs.Ybulkdiks
open Go.RowKit
set_option linter.unusedVariables false
set_option linter.unusedSimpArgs false
set_option maxRecDepth 100000

set_option maxHeartbeats 8000000 in
theorem law_main (a0 a1 a2 : Option Addr) (n l1 l2 c0 c1 c2 : Nat) (T : Nat → Bool) (hz pz : Nat → Nat) (w : World) (h0 : n ≤ 4096) (h1 : l1 ≤ 4096) (h2 : l2 ≤ 4096)
    (hT : Hid (Src w a0 n (fun i => .bool (T i)))) (hH : Hid (Src w a1 l1 (fun i => .int .u8 (hz i)))) (hP : Hid (Src w a2 l2 (fun i => .int .u8 (pz i)))) (hzb : Hid (∀ i, hz i < 256)) (pzb : Hid (∀ i, pz i < 256)) :
    Calls Yba.prog 3 #[.slice a0 n c0, .slice a1 l1 c1, .slice a2 l2 c2] w fun e w' => e = .returned (.bool true) ∧ Below w.heap.size w w' := by
  have hmk27 := run_make_row' (P := Yba.prog) 27 46 (.pointer none) 8 Yba.underlying27 info46 rfl .i64 .i64 n (by omega) (by omega)
  have hmk31 := run_make_row' (P := Yba.prog) 31 3 (.int .i64 0) 8 Yba.underlying31 info3 rfl .i64 .i64 n (by omega) (by omega)
  obtain ⟨i, z, hi, hz0, hs, hb, z1, z39, zz0, z36, z37, z38, z40, zall⟩ := zero45
  obtain ⟨zc, hzc⟩ : ∃ zc, zc = z.cells := ⟨_, rfl⟩
  have hmk26 : ∀ w, (Instr.makeSlice 26 (.int .i64 n) (.int .i64 n)).run Yba.prog w = .ok (.slice (some ⟨w.heap.size, 0, none⟩) n n) (w.alloc (.cells (madeCells zc (n * 41)) 45)) := by
    intro w
    have h := run_make (P := Yba.prog) w 26 45 i z Yba.underlying26 hi hz0 .i64 .i64 n n (by omega) (by omega) (by rw [hb]; omega) (by omega)
    rw [hs, Int.toNat_natCast, ← hzc] at h
    exact h
  rw [← hzc] at z1 z39 zz0 z36 z37 z38 z40 zall
  clear hi hz0 hs hb hzc i z
  have hst := hid (fun cO cA hA a2 a3 => Sit.start w n zc cO cA z1 z39 zz0 z36 z37 z38 z40 (fun r hr => List.all_eq_true.1 zall r (List.mem_range.2 hr)) hA a2 a3 (fun _ => 0) (fun _ => .slice none 0 0) (fun _ => []))
  clear z1 z39 zz0 z36 z37 z38 z40 zall
  have hbig : (decide (4096 < (n : Int)) || decide (4096 < (l1 : Int)) || decide (4096 < (l2 : Int))) = false := by simp; omega
  go_enter Yba.func3, Yba.ntmps3
  go_wp2_with fail
  have S0 := hst.out #[.string ⟨#[111, 116, 104, 101, 114]⟩, .int .i64 0, .slice none 0 0, .slice none 0 0, .slice none 0 0, .pointer none] #[.string ⟨#[97]⟩, .int .i64 0, .slice (some ⟨w.heap.size + 1 + 1, 0, none⟩) n n, .slice none 0 0, .slice none 0 0, .pointer none] rfl rfl rfl
  clear hst hmk27 hmk31 hmk26
  revert S0
  generalize (((((w.alloc _).alloc _).alloc _).alloc _).alloc _) = wA
  intro S0
  generalize w.heap.size + 1 + 1 + 1 + 1 + 1 = B0 at *
  generalize w.heap.size + 1 + 1 + 1 + 1 = bP at *
  generalize w.heap.size + 1 + 1 + 1 = bA at *
  generalize w.heap.size + 1 + 1 = bS at *
  generalize w.heap.size + 1 = bM at *
  refine wp_QQ (R := (fun e w' => e = .returned (.bool true) ∧ Below w.heap.size w w')) (fun _ _ _ h => h) (loop1 a0 a1 a2 n l1 l2 c0 c1 c2 T hz pz w bM bS bA bP B0 h0 h1 h2 (fun _ => 0) (fun _ => .slice none 0 0) (fun e w' => e = .returned (.bool true) ∧ Below w.heap.size w w') _ wA hT hP pzb ?_ ?_ _ rfl)
  · rw [tA_zero, pA_zero]
    exact ⟨S0.below, S0.o1, S0.o2, S0.o3, S0.o4, S0.o5, S0.o6, S0.other, S0.ms, S0.stakes, S0.acc, S0.pres, fun i hi => by omega, fun i hi => by omega, fun i j hi => by omega, fun i j g hi => by omega, S0.hold, S0.ext⟩
  clear S0
  intro a wc K V hr ha
  obtain ⟨U, rfl⟩ : ∃ U, a = fA a0 a1 a2 n l1 l2 c0 c1 c2 w.heap.size bM bA bP (.int .i64 n) U := ⟨_, ha⟩
  clear ha
  unfold fA
  by_cases hn0 : 0 < n
  · have HR0 := hid hr
    clear hr
    have hd : decide ((0 : Int) < (n : Int)) = true := by simpa using hn0
    go_wp2_with fail
    refine wp_QQ (R := (fun e w' => e = .returned (.bool true) ∧ Below w.heap.size w w')) (fun _ _ _ h => h) (loop3 a0 a1 a2 n l1 l2 c0 c1 c2 T hz pz w bM bS bA bP B0 h0 h1 h2 K V hn0 (fun e w' => e = .returned (.bool true) ∧ Below w.heap.size w w') _ wc hH hzb (.slice none 0 0) HR0.out ?_ _ rfl)
    clear HR0
    intro a wc hv hr ha
    obtain ⟨U, rfl⟩ : ∃ U, a = fC a0 a1 a2 n l1 l2 c0 c1 c2 w.heap.size bM bA bP (.slice a1 l1 c1) (.int .i64 l1) (.int .i64 l1) U := ⟨_, ha⟩
    clear ha
    unfold fC
    have hsl : (HS n l1 hz).length ≤ l1 := by rw [HS_len]; exact Nat.le_refl _
    have hsb : ∀ i, i ∈ HS n l1 hz → i < n := by have := HSn_lt n l1 hz; unfold HSn at this; rwa [if_pos hn0] at this
    generalize HS n l1 hz = hs at *
    have hsl2 : hs.length ≤ 4096 := by omega
    clear hsl
    obtain ⟨ao, cap, rfl, hao⟩ := hr.shape
    simp only [List.length_map] at hr hao
    have c3 := hr.acc.cell3
    have c3a : (wc.alloc (.cells (madeCells #[.pointer none] hs.length) 46)).cell? ⟨bA, 3, none⟩ = some (.slice ao hs.length cap) := (World.cell?_alloc_past _ _ _ hr.acc.lt).trans c3
    have hmk := run_make_row' (P := Yba.prog) 27 46 (.pointer none) 8 Yba.underlying27 info46 rfl .i64 .i64 hs.length (by omega) (by omega)
    have HR := hid hr
    have HAO := hid hao
    clear hr hao
    go_wp2_with (refine wpList_copy_splice rfl (.tmp 139) (.tmp 143) 27 27 rfl 46 Yba.underlying27 size46 _ _ _ _ _ _ rfl rfl wc.heap.size 0 (madeCells #[.pointer none] hs.length).toList 46 ?_ (hs.map (fun i => .pointer (some ⟨K i, 0, none⟩))) ?_ ?_ ?_ (ptrs_one _ _) wc.heap.size wc ((Below.refl _ _).alloc (Nat.le_refl _) _) (Nat.le_refl _) ?_)
    · simpa using heap_alloc_new _ _
    · simp
    · intro hp
      obtain ⟨g, rfl⟩ := HAO.out (by simpa using hp)
      refine ⟨_, rfl, fun j i hi => ?_⟩
      have hc := HR.out.hold.cells (g := g) rfl j (.pointer (some ⟨K i, 0, none⟩)) (by simp [hi])
      rw [Addr.add_mid] at hc ⊢
      exact (World.cell?_alloc_past _ _ _ (World.block_lt_of_cell? _ _ hc)).trans hc
    · simp [size_madeCells]
    · intro w3 hg hb3
      have hr := HR.out.kept hb3
      have hBc := HR.out.o6
      have hao := HAO.out
      clear HR HAO hmk c3 c3a
      replace hg := hg.out
      rw [splice_all _ _ (by simp [size_madeCells])] at hg
      replace hr := hr.more hBc hg
      clear hg hb3 hBc
      generalize wc.heap.size = bH at *
      have HA := hid (atouch hr (by omega) (fun i hi => LA_len l2 pz _ i) hs (by omega) rfl hsb)
      clear hr
      go_wp2_with (go_at_call 4; refine HA.out.mono ?_; rintro e w4 ⟨rfl, V4, h4⟩; have c34 := h4.acc.cell3)
      clear HA
      refine loop4 a0 a1 a2 n l1 l2 c0 c1 c2 T hz pz w bM bS bA bP B0 h0 h1 h2 K V4 hs hsb hsl2 ao cap bH hao _ _ h4 ?_ _ rfl
      intro a r ha
      have h5 := h4.kept (below_drewN (Below.refl w4.heap.size w4) r)
      clear h4 c34
      generalize w4.drewN r = w5 at *
      obtain ⟨U, rfl⟩ : ∃ U, a = fD a0 a1 a2 n l1 l2 c0 c1 c2 w.heap.size bM bA bP (.slice (some ⟨bH, 0, none⟩) hs.length hs.length) (.int .i64 hs.length) (.int .i64 hs.length) U := ⟨_, ha⟩
      clear ha
      unfold fD
      have c52 := h5.acc.cell2
      have H5 := hid h5
      clear h5
      go_wp2_with fail
      refine wp_QQ (R := (fun e w' => e = .returned (.bool true) ∧ Below w.heap.size w w')) (fun _ _ _ h => h) (loop5 a0 a1 a2 n l1 l2 c0 c1 c2 T hz pz w bM bS bA bP B0 h0 h1 h2 K V4 hs hsb hsl2 ao cap bH hao (fun e w' => e = .returned (.bool true) ∧ Below w.heap.size w w') _ w5 hT H5.out ?_ _ rfl)
      intro a w' hb ha
      obtain ⟨U, rfl⟩ : ∃ U, a = fE a0 a1 a2 n l1 l2 c0 c1 c2 w.heap.size bM bA bP (.slice (some ⟨bH, 0, none⟩) hs.length hs.length) (.int .i64 n) U := ⟨_, ha⟩
      clear ha
      unfold fE
      clear c52 H5
      go_wp2
      go_ret
      exact ⟨rfl, hb⟩
  · have hd : decide ((0 : Int) < (n : Int)) = false := by simpa using hn0
    obtain ⟨hs, hhs⟩ : ∃ hs : List Nat, hs = [] := ⟨_, rfl⟩
    obtain ⟨hv, hhv⟩ : ∃ hv : Value, hv = .slice none 0 0 := ⟨_, rfl⟩
    have hr0 : Sit w wc w.heap.size bM bS bA bP B0 n n n (tA T n) K V (LA (PP l2 pz) (.pointer (some ⟨w.heap.size, 0, none⟩))) (pA (PP l2 pz) n) hv (hs.map (fun i => .pointer (some ⟨K i, 0, none⟩))) [] := by rw [hhs, hhv]; exact hr
    have hsb : ∀ i, i ∈ hs → i < n := by rw [hhs]; intro i hi; simp at hi
    have hsl2 : hs.length ≤ 4096 := by rw [hhs]; simp
    clear hr hhs hhv
    have hr := hr0
    clear hr0
    obtain ⟨ao, cap, rfl, hao⟩ := hr.shape
    simp only [List.length_map] at hr hao
    have c3 := hr.acc.cell3
    have c3a : (wc.alloc (.cells (madeCells #[.pointer none] hs.length) 46)).cell? ⟨bA, 3, none⟩ = some (.slice ao hs.length cap) := (World.cell?_alloc_past _ _ _ hr.acc.lt).trans c3
    have hmk := run_make_row' (P := Yba.prog) 27 46 (.pointer none) 8 Yba.underlying27 info46 rfl .i64 .i64 hs.length (by omega) (by omega)
    have HR := hid hr
    have HAO := hid hao
    clear hr hao
    go_wp2_with (refine wpList_copy_splice rfl (.tmp 139) (.tmp 143) 27 27 rfl 46 Yba.underlying27 size46 _ _ _ _ _ _ rfl rfl wc.heap.size 0 (madeCells #[.pointer none] hs.length).toList 46 ?_ (hs.map (fun i => .pointer (some ⟨K i, 0, none⟩))) ?_ ?_ ?_ (ptrs_one _ _) wc.heap.size wc ((Below.refl _ _).alloc (Nat.le_refl _) _) (Nat.le_refl _) ?_)
    · simpa using heap_alloc_new _ _
    · simp
    · intro hp
      obtain ⟨g, rfl⟩ := HAO.out (by simpa using hp)
      refine ⟨_, rfl, fun j i hi => ?_⟩
      have hc := HR.out.hold.cells (g := g) rfl j (.pointer (some ⟨K i, 0, none⟩)) (by simp [hi])
      rw [Addr.add_mid] at hc ⊢
      exact (World.cell?_alloc_past _ _ _ (World.block_lt_of_cell? _ _ hc)).trans hc
    · simp [size_madeCells]
    · intro w3 hg hb3
      have hr := HR.out.kept hb3
      have hBc := HR.out.o6
      have hao := HAO.out
      clear HR HAO hmk c3 c3a
      replace hg := hg.out
      rw [splice_all _ _ (by simp [size_madeCells])] at hg
      replace hr := hr.more hBc hg
      clear hg hb3 hBc
      generalize wc.heap.size = bH at *
      have HA := hid (atouch hr (by omega) (fun i hi => LA_len l2 pz _ i) hs (by omega) rfl hsb)
      clear hr
      go_wp2_with (go_at_call 4; refine HA.out.mono ?_; rintro e w4 ⟨rfl, V4, h4⟩; have c34 := h4.acc.cell3)
      clear HA
      refine loop4 a0 a1 a2 n l1 l2 c0 c1 c2 T hz pz w bM bS bA bP B0 h0 h1 h2 K V4 hs hsb hsl2 ao cap bH hao _ _ h4 ?_ _ rfl
      intro a r ha
      have h5 := h4.kept (below_drewN (Below.refl w4.heap.size w4) r)
      clear h4 c34
      generalize w4.drewN r = w5 at *
      obtain ⟨U, rfl⟩ : ∃ U, a = fD a0 a1 a2 n l1 l2 c0 c1 c2 w.heap.size bM bA bP (.slice (some ⟨bH, 0, none⟩) hs.length hs.length) (.int .i64 hs.length) (.int .i64 hs.length) U := ⟨_, ha⟩
      clear ha
      unfold fD
      have c52 := h5.acc.cell2
      have H5 := hid h5
      clear h5
      go_wp2_with fail
      refine wp_QQ (R := (fun e w' => e = .returned (.bool true) ∧ Below w.heap.size w w')) (fun _ _ _ h => h) (loop5 a0 a1 a2 n l1 l2 c0 c1 c2 T hz pz w bM bS bA bP B0 h0 h1 h2 K V4 hs hsb hsl2 ao cap bH hao (fun e w' => e = .returned (.bool true) ∧ Below w.heap.size w w') _ w5 hT H5.out ?_ _ rfl)
      intro a w' hb ha
      obtain ⟨U, rfl⟩ : ∃ U, a = fE a0 a1 a2 n l1 l2 c0 c1 c2 w.heap.size bM bA bP (.slice (some ⟨bH, 0, none⟩) hs.length hs.length) (.int .i64 n) U := ⟨_, ha⟩
      clear ha
      unfold fE
      clear c52 H5
      go_wp2
      go_ret
      exact ⟨rfl, hb⟩
end Go.Proofs.Ybulkdiks
