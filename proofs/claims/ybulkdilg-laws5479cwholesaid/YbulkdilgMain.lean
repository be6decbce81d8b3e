import Derived.Test.YbulkdilgFin2
import Derived.Test.YbulkdilgL1
import Derived.Test.YbulkdilgL3
import Derived.Test.YbulkdilgL5
import Derived.Test.YbulkdilgL6
import Derived.Lib.JoinLaws
namespace Go.Proofs.Ybulkdilg
open Go.RowKit
set_option linter.unusedVariables false
set_option linter.unusedSimpArgs false
set_option linter.unnecessarySimpa false
set_option maxRecDepth 100000

set_option maxHeartbeats 8000000 in
theorem law_pos (buy : Bool) (kk : Int) (a1 : Option Addr) (n c1 : Nat) (zs : List Int) (w : World) (hk0 : 0 ≤ kk) (hk1 : kk < 18446744073709551616) (hn0 : 0 < n) (hn : n ≤ 4096) (hzl : zs.length = n) (hS : Hid (Src w a1 n zs)) :
    Calls Yba.prog 3 #[.bool buy, .slice a1 n c1, .int .u64 kk] w fun e w' => e = .returned (.bool true) ∧ Below w.heap.size w w' := by
  have hnz : ¬ ((n : Int) = 0) := by omega
  have hW0 : Hid (Below w.heap.size w w) := Below.refl _ _
  go_enter Yba.func3, Yba.ntmps3
  go_wp2_with fail
  refine wp_QQ (R := (fun e w' => e = .returned (.bool true) ∧ Below w.heap.size w w')) (fun _ _ _ h => h) (loop1 buy kk a1 n c1 zs hzl (by omega) w hS (fun e w' => e = .returned (.bool true) ∧ Below w.heap.size w w') _ ?_ _ rfl)
  intro a w1 va vc hW ha
  obtain ⟨U, rfl⟩ : ∃ U, a = fA buy kk a1 n c1 (.slice va (wf buy zs).length vc) (.int .i64 n) U := ⟨_, ha⟩
  clear ha
  unfold fA
  have hWl := wf_len buy zs n (by omega)
  rw [show List.take n zs = zs from List.take_of_length_le (by omega)] at hWl
  have hWp := wf_pos buy zs (by omega)
  have hS1 : Hid (∀ i, i < n → ∃ b off, a1 = some ⟨b, off, none⟩ ∧ b < w1.heap.size ∧ w1.cell? ⟨b, off + i, none⟩ = some (.int .i64 ((zs).getD i 0))) := fun i hi => by
    obtain ⟨b, off, e1, e2, e3⟩ := hS.out i hi
    exact ⟨b, off, e1, Nat.lt_of_lt_of_le e2 hW.2.size, (hW.2.cell (p := ⟨b, off + i, none⟩) e2).trans e3⟩
  have hBS := Bld.start w1 buy
  have hWW := hid hW
  clear hW hS
  go_wp2_with fail
  refine wp_QQ (R := (fun e w' => e = .returned (.bool true) ∧ Below w.heap.size w w')) (fun _ _ _ h => h) (loop3 buy kk a1 n c1 zs hzl (by omega) w1 hS1 w1.heap.size rfl (.slice va (wf buy zs).length vc) _ (fun e w' => e = .returned (.bool true) ∧ Below w.heap.size w w') _ hBS ?_ _ rfl)
  intro a w3 hB ha
  obtain ⟨U, rfl⟩ : ∃ U, a = fC buy kk a1 n c1 w1.heap.size (.slice va (wf buy zs).length vc) (.int .i64 n) U := ⟨_, ha⟩
  clear ha hS1 hBS
  unfold fC
  generalize hsb : w1.heap.size = sb at *
  generalize wf buy zs = W at *
  obtain ⟨ds, M, T, hs, hup, hpl, hbel⟩ := hB
  have hSit : Hid (Sit w w1 w3 sb buy va vc W ds M T) := ⟨hs, hup, hpl, hWW.out, hsb, hbel⟩
  have hlen : (io T).length = W.length := hSit.out.len
  have hbest : w3.cell? ⟨sb, 2, none⟩ = some (.pointer (adr (io T).reverse[0]?)) := by
    rw [← last_rev]; exact hs.cell 2 _ rfl
  obtain ⟨idx, hidx, hil⟩ : ∃ idx : Nat, kk % (W.length : Int) = (idx : Int) ∧ idx < W.length := by
    have h1 := Int.emod_nonneg kk (show (W.length : Int) ≠ 0 by omega)
    have h2 := Int.emod_lt_of_pos kk (show (0 : Int) < W.length by omega)
    exact ⟨(kk % (W.length : Int)).toNat, by omega, by omega⟩
  have hSS := hid hs
  clear hs hup hpl hbel hWW
  generalize hbp : adr (io T).reverse[0]? = bp at *
  have hbp' := hid hbp
  clear hbp
  go_wp2_with fail
  have hbp2 := hbp'.out
  subst hbp2
  clear hbp' hbest
  refine wp_QQ (R := (fun e w' => e = .returned (.bool true) ∧ Below w.heap.size w w')) (fun _ _ _ h => h) (loop4 buy kk a1 n c1 sb (.slice va W.length vc) idx w3 ds M T hSS (by omega) (by omega) (fun e w' => e = .returned (.bool true) ∧ Below w.heap.size w w') _ ?_ _ rfl)
  intro a ha
  obtain ⟨U, rfl⟩ : ∃ U, a = fD buy kk a1 n c1 sb (.slice va W.length vc) (.int .i64 idx) (.pointer (adr (io T).reverse[idx]?)) (.int .i64 idx) U := ⟨_, ha⟩
  clear ha
  unfold fD
  obtain ⟨l, hl⟩ : ∃ l, (io T).reverse[idx]? = some l := ⟨_, List.getElem?_eq_getElem (by simp; omega)⟩
  have hld := hSS.out.sub l (List.mem_reverse.1 (List.mem_of_getElem? hl))
  have hLl := hSS.out.lvs l hld
  have c0 := hLl.price
  have c7 := hLl.better
  have c6 := hLl.worse
  have c8 := hLl.left
  have c9 := hLl.right
  have c10 := hLl.height
  rw [hl, adr_some]
  have hll := hid hl
  clear hl hld hLl
  go_wp2_with fail
  go_quiet (fail)
  go_wp2_with fail
  refine (hSit.out.dropped (by omega) hll.out nq).mono ?_
  rintro e w5 ⟨rfl, ⟨M', T', hmid⟩, hkb⟩
  clear c0 c6 c7 c8 c9 c10
  generalize M l = v at *
  obtain ⟨g, cur, hva, hgsb, hgc, hct⟩ := hSit.out.row hWp
  subst hva
  have C10 := hid (hmid.clone (vc := vc) ((hkb g hgsb).trans hgc) hct hWp (by omega))
  have hsb5 := hid (And.intro hmid.side.lt (fun b hb => (hmid.side.lvs b hb).lt))
  have hw5 : w.heap.size ≤ w5.heap.size := hmid.bel.size
  clear hkb hgc hct hmid
  go_wp2_with fail
  refine C10.out.mono ?_
  rintro e w6 ⟨g', cap', rfl, hmid6, hg5, cur', hg6, hcs, hc1, hc2, hct⟩
  have C9 := hid (hmid6.delete hg6 (fun hc => by
    rcases List.mem_cons.1 hc with e | e
    · have := hsb5.out.1; omega
    · have := hsb5.out.2 g' e; omega) (by omega) hcs hc1 hc2 hct hil)
  clear C10 hmid6 hg6 hcs hct hsb5
  go_wp2_with fail
  refine C9.out.mono ?_
  rintro e w7 ⟨rfl, hA⟩
  clear C9
  have hLl : Lev w7 l v := by rw [← hA.lsame]; exact hA.side.lvs l hA.lin
  have c0 := hLl.price
  have c7 := hLl.better
  have c6 := hLl.worse
  have c8 := hLl.left
  have c9 := hLl.right
  have c10 := hLl.height
  have n7 := fun w => neq_same v.better w
  have n6 := fun w => neq_same v.worse w
  have n8 := fun w => neq_same v.left w
  have n9 := fun w => neq_same v.right w
  have s0 : w7.cell? ⟨sb, 0, none⟩ = some (.bool buy) := hA.side.cell 0 _ rfl
  have s3 : w7.cell? ⟨sb, 3, none⟩ = some (.pointer none) := hA.side.cell 3 _ rfl
  have s2 : w7.cell? ⟨sb, 2, none⟩ = some (.pointer (adr (io T').reverse[0]?)) := by
    rw [← last_rev]; exact hA.side.cell 2 _ rfl
  have s1 : w7.cell? ⟨sb, 1, none⟩ = some (.pointer (adr (root T'))) := hA.side.cell 1 _ rfl
  have hmk := fun w => run_make_room (P := Yba.prog) 46 29 (.pointer none) 8 Yba.underlying46 info29 rfl .i64 .i64 (W.length - 1) (by omega) (by omega) w
  have hsb7 : sb < w7.heap.size := hA.side.lt
  have hAA := hid hA
  clear hA hLl hSS hSit hll
  generalize hv7 : adr v.better = x7 at *
  generalize hv6 : adr v.worse = x6 at *
  generalize hv8 : adr v.left = x8 at *
  generalize hv9 : adr v.right = x9 at *
  clear hv7 hv6 hv8 hv9
  generalize hbp : adr (io T').reverse[0]? = bp at *
  have hbp' := hid hbp
  clear hbp
  generalize hrt : adr (root T') = rt at *
  have hrt' := hid hrt
  clear hrt
  generalize hm : W.length - 1 = m at *
  go_wp2_with fail
  have hbp2 := hbp'.out
  subst hbp2
  clear hbp' c0 c6 c7 c8 c9 c10 n6 n7 n8 n9 s0 s2 s3 hmk
  refine wp_QQ (R := (fun e w' => e = .returned (.bool true) ∧ Below w.heap.size w w')) (fun _ _ _ h => h) (loop5 buy kk a1 n c1 sb l g' cap' w7.heap.size m w7 _ ds M' T' (hid hAA.out.side) (hid ⟨hAA.out.lout, hAA.out.lin⟩) hAA.out.len (by omega) rfl (hid hAA.out.exp) hAA.out.lgt (.slice (some ⟨w7.heap.size, 0, none⟩) 0 m) (fun e w' => e = .returned (.bool true) ∧ Below w.heap.size w w') _ ⟨World.ownsRow_made w7 _ m (Nat.le_refl _) (by unfold maxLen; omega) (by rw [size_madeCells]; omega), (Below.refl _ w7).alloc (Nat.le_refl _) _⟩ ?_ _ rfl)
  intro a w8 v29 x30 hI ha
  obtain ⟨U, rfl⟩ : ∃ U, a = fE buy kk a1 n c1 sb (.pointer (some ⟨l, 0, none⟩)) (.slice (some ⟨g', 0, none⟩) m cap') v29 x30 (.pointer none) (.int .i64 m) U := ⟨_, ha⟩
  clear ha
  unfold fE
  have r1 : w8.cell? ⟨sb, 1, none⟩ = some (.pointer rt) := (hI.2.cell (p := ⟨sb, 1, none⟩) hsb7).trans s1
  have hsb8 : sb < w8.heap.size := Nat.lt_of_lt_of_le hsb7 hI.2.size
  have hrt2 := hrt'.out
  subst hrt2
  clear hrt' s1
  have C11 := hid (walk_start hAA.out hI.2 (by omega))
  have hII := hid hI
  clear hI
  obtain ⟨va2, vc2, rfl⟩ := own_form hII.out.1
  generalize hrt : adr (root T') = rt at *
  clear hrt
  go_wp2_with fail
  refine C11.out.mono ?_
  rintro e w9 ⟨rfl, ⟨vi, hob, hown, hsz⟩, hnear⟩
  obtain ⟨ia, ic, rfl⟩ := own_form hown
  have hm1 : (io T').length = m := hAA.out.len
  rw [List.nil_append] at hown hob
  rw [hm1] at hown hob
  have co : w9.cell? ⟨w8.heap.size, 0, none⟩ = some (.slice ia m ic) := by simp [World.cell?, hob, hm1]
  have hv9 : Hid (w9.ownsRow w7.heap.size 29 1 (.slice va2 m vc2) m (pts (io T').reverse)) := own_of hII.out.1 (fun g hg => by
    have h1 := (hII.out.1.lt g hg).2
    exact (hnear.block g (by omega) (by omega)).trans (Below.heap_alloc _ _ _ h1))
  have hi9 := hid hown
  have hb9 : Hid (Below w.heap.size w w9) := by
    have h0 : Below w.heap.size w w := hW0.out
    have h1 := hAA.out.bel
    have h2 := hII.out.2
    have z0 := h0.size
    have z1 := h1.size
    have z2 := h2.size
    refine h0.trans ⟨?_, ?_, ?_, ?_, ?_⟩
    · exact hnear.os.trans (h2.os.trans h1.os)
    · exact hnear.tape.trans (h2.tape.trans h1.tape)
    · exact hnear.output.trans (h2.output.trans h1.output)
    · have := hnear.size
      rw [← World.alloc_eq] at this
      simp at this
      omega
    · intro k hk
      rw [hnear.block k (by omega) (by omega), Below.heap_alloc _ _ _ (by omega), h2.block k (by omega), h1.block k (by omega)]
  clear C11 hown hob hsz hnear r1 hII
  go_wp2_with fail
  refine wp_QQ (R := (fun e w' => e = .returned (.bool true) ∧ Below w.heap.size w w')) (fun _ _ _ h => h) (loop6 buy kk a1 n c1 w8.heap.size w7.heap.size (w8.heap.size + 1) m va2 ia vc2 ic w9 (io T') hm1 (by omega) hv9 hi9 co (fun e w' => e = .returned (.bool true) ∧ Below w.heap.size w w') _ ?_ _ rfl)
  intro a q ha
  obtain ⟨U, rfl⟩ : ∃ U, a = fF buy kk a1 n c1 (.slice va2 m vc2) (.pointer (some ⟨w8.heap.size, 0, none⟩)) (.int .i64 m) U := ⟨_, ha⟩
  clear ha
  unfold fF
  clear co hv9 hi9
  go_wp2
  go_ret
  exact ⟨rfl, below_drewN hb9.out q⟩
end Go.Proofs.Ybulkdilg
