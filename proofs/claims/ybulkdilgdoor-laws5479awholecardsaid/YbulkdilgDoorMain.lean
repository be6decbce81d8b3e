import Derived.Test.YbulkdilgDoorLw3
import Derived.Test.YbulkdilgDoorLw2
namespace Go.Proofs.YbulkdilgDoor
open Go.RowKit
set_option maxRecDepth 100000
set_option linter.unusedVariables false
set_option linter.unusedSimpArgs false
set_option linter.unnecessarySimpa false

theorem law_big (buy : Bool) (a1 : Option Addr) (n c1 : Nat) (w : World) (h : 1024 < (n : Int)) :
    Calls Ybad.prog 3 #[.bool buy, .slice a1 n c1] w fun e w' => e = .returned (.bool true) ∧ Below w.heap.size w w' := by
  have hd : decide (1024 < (n : Int)) = true := by simpa using h
  go_enter Ybad.func3, Ybad.ntmps3
  go_wp2
  go_ret
  exact ⟨rfl, Below.refl _ _⟩

theorem na_false {ad : Nat → Bool} : ∀ {n : Nat}, na ad n = 0 → ∀ k, k < n → ad k = false
  | 0, _, k, hk => absurd hk (Nat.not_lt_zero _)
  | n + 1, h, k, hk => by
    rw [na] at h
    by_cases e : k = n
    · subst e
      cases hb : ad k with
      | true => rw [hb] at h; simp at h
      | false => rfl
    · exact na_false (n := n) (by omega) k (by omega)

set_option maxHeartbeats 4000000 in
/-- The loop where nothing is ever added. -/
theorem law3z (buy : Bool) (a1 : Option Addr) (n c1 : Nat) (ad : Nat → Bool) (pr qt pk : Nat → Int) (hn : n ≤ 1024) (w0 w : World) (hO : Hid (Ops w0 a1 n ad pr qt pk)) (rb : Nat) (hz : Hid (∀ k, k < n → ad k = false)) (hb : Below w0.heap.size w0 w)
    (R : Ending → World → Prop) (Qq : Exit → Act → World → Prop)
    (HQ : Hid (∀ a wr, Below w0.heap.size w0 wr → a = hD buy a1 n c1 rb (.int .i64 n) (sl a) → Qq (.exit 4) a wr))
    (a : Act) (ha : a = hD buy a1 n c1 rb (.int .i64 (0 : Nat)) (sl a)) : Code.wp Ybad.prog ((Ybad.f3.body.bind (findLoop 24)).getD .skip) (QQ R Qq) a w := by
  conv => arg 2; whnf
  refine wp_loop_hand (X := Nat) (fun k a wr => k ≤ n ∧ Below w0.heap.size w0 wr ∧ a = hD buy a1 n c1 rb (.int .i64 k) (sl a)) (fun k => n - k) 0 ⟨Nat.zero_le _, hb, ha⟩ ?_
  clear ha a hb w
  rintro k a wr ⟨hk, hb, ha⟩ Kc hK
  obtain ⟨U, rfl⟩ : ∃ U, a = hD buy a1 n c1 rb (.int .i64 k) U := ⟨_, ha⟩
  clear ha
  unfold hD
  by_cases hlt : k < n
  · obtain ⟨b, off, rfl, _, c0, c1', c2, c3⟩ := (hO.out.of hb) k hlt
    rw [hz.out k hlt] at c0
    have hkn : (k : Int) < (n : Int) := by omega
    have hb1 : Hid (Below w0.heap.size w0 (wr.alloc (.cells #[.bool false, .int .i64 (pr k), .int .u32 (qt k), .int .u16 (pk k)] 26))) := hb.alloc hb.size _
    clear HQ hb
    go_wp2_with fail
    exact hK.out (k + 1) _ _ ⟨by omega, hb1.out, rfl⟩ (by omega)
  · obtain rfl : k = n := by omega
    have hB := hid hb
    clear hK hb
    go_wp2_with fail
    exact HQ.out _ _ hB.out rfl

theorem bal {B : Nat} {a w : World} (h : Below B a w ∧ B ≤ w.heap.size) (o : Obj) : Below B a (w.alloc o) ∧ B ≤ (w.alloc o).heap.size := by
  refine ⟨h.1.alloc h.2 o, ?_⟩
  have e : (w.alloc o).heap.size = w.heap.size + 1 := by rw [← World.alloc_eq]; simp
  have := h.2
  omega
theorem info28 : (Ybad.prog.info? 28).map (fun i => (i.zero, i.size, i.bytes)) = some (some (.slice none 0 0), 1, 24) := by kernel_rfl

set_option maxHeartbeats 8000000 in
theorem law_none (buy : Bool) (a1 : Option Addr) (n c1 : Nat) (ad : Nat → Bool) (pr qt pk : Nat → Int) (w : World) (hn : n ≤ 1024) (hO : Hid (Ops w a1 n ad pr qt pk)) (hz : na ad n = 0) :
    Calls Ybad.prog 3 #[.bool buy, .slice a1 n c1] w fun e w' => e = .returned (.bool true) ∧ Below w.heap.size w w' := by
  have hd : decide (1024 < (n : Int)) = false := by simp; omega
  have hmk27 : ∀ w, (Instr.makeSlice 27 (.int .i64 0) (.int .i64 0)).run Ybad.prog w = .ok (.slice (some ⟨w.heap.size, 0, none⟩) 0 0) (w.alloc (.cells (madeCells #[.slice none 0 0] 0) 28)) := run_make_row' (P := Ybad.prog) 27 28 (.slice none 0 0) 24 Ybad.underlying27 info28 rfl .i64 .i64 0 (by omega) (by omega)
  have hmk37 : ∀ w, (Instr.makeSlice 37 (.int .i64 0) (.int .i64 0)).run Ybad.prog w = .ok (.slice (some ⟨w.heap.size, 0, none⟩) 0 0) (w.alloc (.cells (madeCells #[.int .i64 0] 0) 44)) := run_make_room (P := Ybad.prog) 37 44 (.int .i64 0) 8 Ybad.underlying37 info44' rfl .i64 .i64 0 (by omega) (by omega)
  have hmk38 : ∀ w, (Instr.makeSlice 38 (.int .i64 0) (.int .i64 0)).run Ybad.prog w = .ok (.slice (some ⟨w.heap.size, 0, none⟩) 0 0) (w.alloc (.cells (madeCells #[.bool false] 0) 4)) := run_make_room (P := Ybad.prog) 38 4 (.bool false) 1 Ybad.underlying38 info4 rfl .i64 .i64 0 (by omega) (by omega)
  have hmk39 : ∀ w, (Instr.makeSlice 39 (.int .i64 0) (.int .i64 0)).run Ybad.prog w = .ok (.slice (some ⟨w.heap.size, 0, none⟩) 0 0) (w.alloc (.cells (madeCells #[.int .i64 0] 0) 3)) := run_make_room (P := Ybad.prog) 39 3 (.int .i64 0) 8 Ybad.underlying39 info3 rfl .i64 .i64 0 (by omega) (by omega)
  go_enter Ybad.func3, Ybad.ntmps3
  go_wp2_with fail
  refine wp_QQ (R := (fun e w' => e = .returned (.bool true) ∧ Below w.heap.size w w')) (fun _ _ _ h => h) (law1 buy a1 n c1 ad pr qt pk hn w hO (fun e w' => e = .returned (.bool true) ∧ Below w.heap.size w w') _ ?_ _ rfl)
  intro a ha
  obtain ⟨U, rfl⟩ : ∃ U, a = hA buy a1 n c1 (.int .i64 (na ad n)) (.int .i64 n) U := ⟨_, ha⟩
  clear ha
  unfold hA
  have e : ((na ad n : Nat) : Int) = 0 := by omega
  rw [e]
  have hz' := hid (na_false hz)
  clear e hz
  go_wp2_with fail
  refine wp_loop_hand (X := Unit) (fun _ a w' => a = _ ∧ w' = _) (fun _ => 0) () ⟨rfl, rfl⟩ ?_
  rintro _ a w' ⟨rfl, rfl⟩ Kc hK
  clear hK
  go_wp2_with fail
  clear hmk27 hmk37 hmk38 hmk39
  refine wp_QQ (R := (fun e w' => e = .returned (.bool true) ∧ Below w.heap.size w w')) (fun _ _ _ h => h) (law3z buy a1 n c1 ad pr qt pk hn w _ hO (w.heap.size + 1 + 1 + 1 + 1 + 1 + 1) hz' (bal (bal (bal (bal (bal (bal (bal ⟨Below.refl _ _, Nat.le_refl _⟩ _) _) _) _) _) _) _).1 (fun e w' => e = .returned (.bool true) ∧ Below w.heap.size w w') _ ?_ _ rfl)
  intro a wr hb ha
  obtain ⟨U', rfl⟩ : ∃ U', a = hD buy a1 n c1 (w.heap.size + 1 + 1 + 1 + 1 + 1 + 1) (.int .i64 n) U' := ⟨_, ha⟩
  clear ha
  unfold hD
  have hb' := hid hb
  clear hb
  go_wp2_with fail
  go_ret
  exact ⟨rfl, hb'.out⟩

/-- Behind the chunks' loop. -/
def Chk1 (zc : Array Value) (w w' : World) : Prop := w'.heap[w.heap.size]? = some (.cells #[.slice (some ⟨w.heap.size + 1, 0, none⟩) 1024 1024] 28 (0, 0)) ∧ w'.heap[w.heap.size + 1]? = some (.cells (madeCells zc 14336) 47 (0, 0)) ∧ w'.heap.size = w.heap.size + 2 ∧ Below w.heap.size w w'

theorem made1 : madeCells #[Value.slice none 0 0] 1 = #[.slice none 0 0] := by
  apply Array.ext
  · simp [madeCells]
  · intro i h1 h2
    have h3 : i = 0 := by simpa using h2
    subst h3
    simp [madeCells]
theorem sz_al (w : World) (o : Obj) : (w.alloc o).heap.size = w.heap.size + 1 := by rw [← World.alloc_eq]; simp
theorem chk1_mk (zc : Array Value) (w : World) : Chk1 zc w ((w.alloc (.cells #[.slice (some ⟨w.heap.size + 1, 0, none⟩) 1024 1024] 28)).alloc (.cells (madeCells zc 14336) 47)) := by
  have r1 := heap_alloc_new w (.cells #[.slice (some ⟨w.heap.size + 1, 0, none⟩) 1024 1024] 28)
  have s1 := sz_al w (.cells #[.slice (some ⟨w.heap.size + 1, 0, none⟩) 1024 1024] 28)
  have b1 := bal ⟨Below.refl w.heap.size w, Nat.le_refl _⟩ (.cells #[.slice (some ⟨w.heap.size + 1, 0, none⟩) 1024 1024] 28)
  generalize w.alloc (.cells #[.slice (some ⟨w.heap.size + 1, 0, none⟩) 1024 1024] 28) = w1 at *
  have r2 := heap_alloc_new w1 (.cells (madeCells zc 14336) 47)
  rw [s1] at r2
  have s2 := sz_al w1 (.cells (madeCells zc 14336) 47)
  exact ⟨(Below.heap_alloc _ _ _ (by omega)).trans r1, r2, by omega, (bal b1 _).1⟩
theorem St.start2 (w w' : World) (zc ce : Array Value) (buy : Bool) (nA : Nat) (hz : zc.size = 14 ∧ zc[7]! = .int .u32 0 ∧ zc[8]! = .int .u32 0 ∧ zc[13]! = .bool false) (hC : Chk1 zc w w') (hce : ce[0]? = some (.slice (some ⟨w.heap.size, 0, none⟩) 1 1)) (hnA : nA ≤ 1024) :
    St w ((((((w'.alloc (.cells ce 32)).alloc (.cells #[.bool buy, .pointer none, .pointer none, .pointer (some ⟨w'.heap.size, 0, none⟩)] 36)).alloc (.cells (madeCells #[.int .i64 0] nA) 44)).alloc (.cells (madeCells #[.int .i64 0] nA) 44)).alloc (.cells (madeCells #[.bool false] nA) 4)).alloc (.cells (madeCells #[.int .i64 0] nA) 3))
      buy (w'.heap.size + 1) w'.heap.size w.heap.size (w.heap.size + 1) (w'.heap.size + 1 + 1 + 1 + 1 + 1 + 1) (w'.heap.size + 1 + 1) (w'.heap.size + 1 + 1 + 1) (w'.heap.size + 1 + 1 + 1 + 1) (w'.heap.size + 1 + 1 + 1 + 1 + 1) nA 0 [] := by
  obtain ⟨k1, k2, k3, k4⟩ := hC
  have b0 : Below w'.heap.size w' w' := Below.refl _ _
  have r1 := heap_alloc_new w' (.cells ce 32)
  have s1 := sz_al w' (.cells ce 32)
  have b1 := (bal ⟨Below.refl w'.heap.size w', Nat.le_refl _⟩ (.cells ce 32)).1
  generalize w'.alloc (.cells ce 32) = w1 at *
  have r2 := heap_alloc_new w1 (.cells #[.bool buy, .pointer none, .pointer none, .pointer (some ⟨w'.heap.size, 0, none⟩)] 36)
  have s2 := sz_al w1 (.cells #[.bool buy, .pointer none, .pointer none, .pointer (some ⟨w'.heap.size, 0, none⟩)] 36)
  have b2 := (bal ⟨Below.refl w1.heap.size w1, Nat.le_refl _⟩ (.cells #[.bool buy, .pointer none, .pointer none, .pointer (some ⟨w'.heap.size, 0, none⟩)] 36)).1
  generalize w1.alloc (.cells #[.bool buy, .pointer none, .pointer none, .pointer (some ⟨w'.heap.size, 0, none⟩)] 36) = w2 at *
  have r3 := World.rowIs_made w2 (.int .i64 0) nA 44
  have s3 := sz_al w2 (.cells (madeCells #[.int .i64 0] nA) 44)
  have b3 := (bal ⟨Below.refl w2.heap.size w2, Nat.le_refl _⟩ (.cells (madeCells #[.int .i64 0] nA) 44)).1
  generalize w2.alloc (.cells (madeCells #[.int .i64 0] nA) 44) = w3 at *
  have r4 := World.rowIs_made w3 (.int .i64 0) nA 44
  have s4 := sz_al w3 (.cells (madeCells #[.int .i64 0] nA) 44)
  have b4 := (bal ⟨Below.refl w3.heap.size w3, Nat.le_refl _⟩ (.cells (madeCells #[.int .i64 0] nA) 44)).1
  generalize w3.alloc (.cells (madeCells #[.int .i64 0] nA) 44) = w4 at *
  have r5 := World.rowIs_made w4 (.bool false) nA 4
  have s5 := sz_al w4 (.cells (madeCells #[.bool false] nA) 4)
  have b5 := (bal ⟨Below.refl w4.heap.size w4, Nat.le_refl _⟩ (.cells (madeCells #[.bool false] nA) 4)).1
  generalize w4.alloc (.cells (madeCells #[.bool false] nA) 4) = w5 at *
  have r6 := World.rowIs_made w5 (.int .i64 0) nA 3
  have s6 := sz_al w5 (.cells (madeCells #[.int .i64 0] nA) 3)
  have b6 := (bal ⟨Below.refl w5.heap.size w5, Nat.le_refl _⟩ (.cells (madeCells #[.int .i64 0] nA) 3)).1
  generalize w5.alloc (.cells (madeCells #[.int .i64 0] nA) 3) = w6 at *
  rw [s1] at r2 s2 b2
  rw [s2] at r3 s3 b3
  rw [s3] at r4 s4 b4
  rw [s4] at r5 s5 b5
  rw [s5] at r6 s6 b6
  have B5 := b6
  have B4 := b5.trans (B5.mono (by omega))
  have B3 := b4.trans (B4.mono (by omega))
  have B2 := b3.trans (B3.mono (by omega))
  have B1 := b2.trans (B2.mono (by omega))
  have B0 := b1.trans (B1.mono (by omega))
  exact St.start hz ((B0.block _ (by omega)).trans k1) ((B0.block _ (by omega)).trans k2) ((B1.block _ (by omega)).trans r1) hce ((B2.block _ (by omega)).trans r2)
    (r3.of_block (B3.block _ (by omega))) (r4.of_block (B4.block _ (by omega))) (r5.of_block (B5.block _ (by omega))) r6 (by omega) (by omega) (by omega) (by omega) (by omega) (by omega) (by omega) (by omega) (by omega)
    (k4.trans (B0.mono (by omega))) hnA

set_option maxHeartbeats 8000000 in
theorem law_some (buy : Bool) (a1 : Option Addr) (n c1 : Nat) (ad : Nat → Bool) (pr qt pk : Nat → Int) (w : World) (hn : n ≤ 1024) (hO : Hid (Ops w a1 n ad pr qt pk)) (hqt : Hid (∀ i, 0 ≤ qt i ∧ qt i < 4294967296)) (hpk : Hid (∀ i, 0 ≤ pk i ∧ pk i < 65536)) (hz : 0 < na ad n) :
    Calls Ybad.prog 3 #[.bool buy, .slice a1 n c1] w fun e w' => e = .returned (.bool true) ∧ Below w.heap.size w w' := by
  have hd : decide (1024 < (n : Int)) = false := by simp; omega
  have hna := na_le ad n
  obtain ⟨nA, hnA⟩ : ∃ nA, na ad n = nA := ⟨_, rfl⟩
  obtain ⟨zc, hzc, hmk28⟩ := make28
  have hmk27 : ∀ w, (Instr.makeSlice 27 (.int .i64 1) (.int .i64 1)).run Ybad.prog w = .ok (.slice (some ⟨w.heap.size, 0, none⟩) 1 1) (w.alloc (.cells #[.slice none 0 0] 28)) := fun w => by
    have h := run_make_row' (P := Ybad.prog) 27 28 (.slice none 0 0) 24 Ybad.underlying27 info28 rfl .i64 .i64 1 (by omega) (by omega) w
    rw [made1] at h
    exact h
  have hmk37 := run_make_room (P := Ybad.prog) 37 44 (.int .i64 0) 8 Ybad.underlying37 info44' rfl .i64 .i64 nA (by omega) (by omega)
  have hmk38 := run_make_room (P := Ybad.prog) 38 4 (.bool false) 1 Ybad.underlying38 info4 rfl .i64 .i64 nA (by omega) (by omega)
  have hmk39 := run_make_room (P := Ybad.prog) 39 3 (.int .i64 0) 8 Ybad.underlying39 info3 rfl .i64 .i64 nA (by omega) (by omega)
  go_enter Ybad.func3, Ybad.ntmps3
  go_wp2_with fail
  refine wp_QQ (R := (fun e w' => e = .returned (.bool true) ∧ Below w.heap.size w w')) (fun _ _ _ h => h) (law1 buy a1 n c1 ad pr qt pk hn w hO (fun e w' => e = .returned (.bool true) ∧ Below w.heap.size w w') _ ?_ _ rfl)
  intro a ha
  obtain ⟨U, rfl⟩ : ∃ U, a = hA buy a1 n c1 (.int .i64 (na ad n)) (.int .i64 n) U := ⟨_, ha⟩
  clear ha
  unfold hA
  rw [hnA] at hz hna
  have hnA' := hid hnA
  rw [hnA]
  clear hnA
  have hq1 : ((nA : Int) + 1024 - 1).tdiv 1024 = 1 := by
    rw [Int.tdiv_eq_ediv_of_nonneg (by omega)]
    omega
  go_wp2_with fail
  refine wp_loop_hand (X := Nat) (fun k a w' => a = hB buy a1 n c1 nA w.heap.size (.int .i64 k) (sl a) ∧ ((k = 0 ∧ w' = w.alloc (.cells #[.slice none 0 0] 28)) ∨ (k = 1 ∧ Chk1 zc w w'))) (fun k => 1 - k) 0 ⟨rfl, .inl ⟨rfl, rfl⟩⟩ ?_
  rintro k a w' ⟨ha, hw⟩ Kc hK
  obtain ⟨U', rfl⟩ : ∃ U', a = hB buy a1 n c1 nA w.heap.size (.int .i64 k) U' := ⟨_, ha⟩
  clear ha U
  unfold hB
  rcases hw with ⟨rfl, rfl⟩ | ⟨rfl, hw⟩
  · go_wp2_with fail
    exact hK.out 1 _ _ ⟨rfl, .inr ⟨rfl, chk1_mk zc w⟩⟩ (by omega)
  · clear hK
    have hst := hid (fun ce hce => St.start2 w w' zc ce buy nA hzc hw hce (by omega))
    clear hw hzc
    go_wp2_with fail
    clear hmk27 hmk28 hmk37 hmk38 hmk39
    refine wp_QQ (R := (fun e w' => e = .returned (.bool true) ∧ Below w.heap.size w w')) (fun _ _ _ h => h) (law3 buy a1 n c1 ad pr qt pk hn hqt hpk w _ hO (w'.heap.size + 1) w'.heap.size w.heap.size (w.heap.size + 1) (w'.heap.size + 1 + 1 + 1 + 1 + 1 + 1) (w'.heap.size + 1 + 1) (w'.heap.size + 1 + 1 + 1) (w'.heap.size + 1 + 1 + 1 + 1) (w'.heap.size + 1 + 1 + 1 + 1 + 1) nA hnA'.out (hst.out _ rfl) (fun e w' => e = .returned (.bool true) ∧ Below w.heap.size w w') _ ?_ _ rfl)
    clear hst
    intro a wr cnt rn hb ha
    obtain ⟨U, rfl⟩ : ∃ U, a = hC buy a1 n c1 nA (w'.heap.size + 1) w'.heap.size (w'.heap.size + 1 + 1) (w'.heap.size + 1 + 1 + 1) (w'.heap.size + 1 + 1 + 1 + 1) (w'.heap.size + 1 + 1 + 1 + 1 + 1) cnt rn (.int .i64 n) U := ⟨_, ha⟩
    clear ha
    unfold hC
    have hb' := hid hb
    clear hb
    go_wp2_with fail
    go_ret
    exact ⟨rfl, hb'.out⟩

theorem law_walk (buy : Bool) (a1 : Option Addr) (n c1 : Nat) (ad : Nat → Bool) (pr qt pk : Nat → Int) (w : World) (hO : Ops w a1 n ad pr qt pk) (hqt : ∀ i, 0 ≤ qt i ∧ qt i < 4294967296) (hpk : ∀ i, 0 ≤ pk i ∧ pk i < 65536) :
    Calls Ybad.prog 3 #[.bool buy, .slice a1 n c1] w fun e w' => e = .returned (.bool true) ∧ Below w.heap.size w w' := by
  by_cases hn : 1024 < (n : Int)
  · exact law_big buy a1 n c1 w hn
  · rcases Nat.eq_zero_or_pos (na ad n) with hz | hz
    · exact law_none buy a1 n c1 ad pr qt pk w (by omega) hO hz
    · exact law_some buy a1 n c1 ad pr qt pk w (by omega) hO hqt hpk hz
end Go.Proofs.YbulkdilgDoor
