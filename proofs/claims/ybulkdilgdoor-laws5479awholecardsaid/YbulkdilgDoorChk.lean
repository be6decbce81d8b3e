import Derived.Test.YbulkdilgDoorK1
import Derived.Test.YbulkdilgDoorK2
import Derived.Test.YbulkdilgDoorK3
import Derived.Test.YbulkdilgDoorK5
import Derived.Test.YbulkdilgDoorK8
import Derived.Test.YbulkdilgDoorUni
namespace Go.Proofs.YbulkdilgDoor
open Go.RowKit
set_option maxRecDepth 100000
set_option linter.unusedVariables false
set_option linter.unusedSimpArgs false
set_option linter.unnecessarySimpa false

theorem last_rev (S : List Nat) : S.getLast? = S.reverse[0]? := by
  rw [List.getLast?_eq_head?_reverse, List.head?_eq_getElem?]

set_option maxHeartbeats 8000000 in
theorem check_c (sb eb : Nat) (buy : Bool) (pb qb lb rb cnt rn pc qc lc rc kb cb lim : Nat) (ds : List Nat) (M : Nat → Lv) (T : Tr) (X : Nat → Nat → Value) (P Q : Nat → Int) (rs : List Nat) (hrn : rs.length = rn) (w : World) (hR : Hid (Rd w sb buy eb kb cb lim pb qb lb rb ds M T X P Q cnt rs)) :
    Calls Ybad.prog 7 #[.pointer (some ⟨sb, 0, none⟩), .pointer (some ⟨eb, 0, none⟩), .bool buy, .slice (some ⟨pb, 0, none⟩) cnt pc, .slice (some ⟨qb, 0, none⟩) cnt qc, .slice (some ⟨lb, 0, none⟩) cnt lc, .slice (some ⟨rb, 0, none⟩) rn rc] w fun e w' => e = .returned (.bool true) ∧ Below w.heap.size w w' := by
  have hrl := hR.out.bk.rlen
  have htl := hR.out.bk.tlen
  go_enter Ybad.func7, Ybad.ntmps7
  go_wp2_with fail
  refine wp_QQ (R := (fun e w' => e = .returned (.bool true) ∧ Below w.heap.size w w')) (fun _ _ _ h => h) (chk1 sb eb buy pb qb lb rb cnt rn pc qc lc rc kb cb lim ds M T X P Q rs w hR (fun e w' => e = .returned (.bool true) ∧ Below w.heap.size w w') _ ?_ _ rfl)
  intro a q ha
  obtain ⟨U, rfl⟩ : ∃ U, a = gA sb eb buy pb qb lb rb cnt rn pc qc lc rc (.int .i64 cnt) U := ⟨_, ha⟩
  clear ha
  unfold gA
  go_wp2_with fail
  refine wp_QQ (R := (fun e w' => e = .returned (.bool true) ∧ Below w.heap.size w w')) (fun _ _ _ h => h) (chk2 sb eb buy pb qb lb rb cnt rn pc qc lc rc kb cb lim ds M T X P Q rs hrn w (w.drewN q) hR (below_drewN (Below.refl _ _) q) (fun e w' => e = .returned (.bool true) ∧ Below w.heap.size w w') _ ?_ _ rfl)
  intro a w2 va vc hI2 ha
  obtain ⟨U, rfl⟩ : ∃ U, a = gB sb eb buy pb qb lb rb cnt rn pc qc lc rc (.slice va (dst P rs).length vc) (.int .i64 rn) U := ⟨_, ha⟩
  clear ha
  unfold gB
  obtain ⟨dn, dl, _⟩ := dst_facts P rs rs.length (Nat.le_refl _)
  rw [List.take_length] at dn dl
  generalize hL0 : dst P rs = L0 at *
  have hL0' := hid hL0
  generalize hn0 : L0.length = n at *
  have hII2 := hid hI2
  clear hI2 hL0
  go_wp2_with fail
  refine wp_QQ (R := (fun e w' => e = .returned (.bool true) ∧ Below w.heap.size w w')) (fun _ _ _ h => h) (chk3 sb eb buy pb qb lb rb cnt rn pc qc lc rc w.heap.size va vc n L0 hn0 (by omega) dn w w2 hII2.out (fun e w' => e = .returned (.bool true) ∧ Below w.heap.size w w') _ ?_ _ rfl)
  intro a w3 L x20 hI3 hp hd ha
  obtain ⟨U, rfl⟩ : ∃ U, a = gC sb eb buy pb qb lb rb cnt rn pc qc lc rc (.slice va n vc) x20 U := ⟨_, ha⟩
  clear ha hII2
  unfold gC
  have hps := prices_sorted hR.out.bk (by rw [hL0'.out]; exact hp) hd
  have hR3 : Hid (Rd w3 sb buy eb kb cb lim pb qb lb rb ds M T X P Q cnt rs) := hR.out.ofBelow hI3.2.1
  have hTn : (io T).length = n := by rw [← hI3.2.2, hps]; simp
  have s2 : w3.cell? ⟨sb, 2, none⟩ = some (.pointer (adr (io T).reverse[0]?)) := by
    rw [← last_rev]; exact hR3.out.bk.side.cell 2 _ rfl
  have s1 : w3.cell? ⟨sb, 1, none⟩ = some (.pointer (adr (root T))) := hR3.out.bk.side.cell 1 _ rfl
  have hsb3 : sb < w3.heap.size := hR3.out.bk.side.lt
  have hmk := fun w => run_make_room (P := Ybad.prog) 63 34 (.pointer none) 8 Ybad.underlying63 info34 rfl .i64 .i64 n (by omega) (by omega) w
  have hcell : Hid (∀ j b, (io T).reverse[j]? = some b → ∃ pg, va = some ⟨pg, 0, none⟩ ∧ pg < w3.heap.size ∧ w3.cell? ⟨pg, j, none⟩ = some (.int .i64 (M b).price)) := fun j b hj => by
    have hjl : j < L.length := by
      have := (List.getElem?_eq_some_iff.1 hj).1
      rw [hI3.2.2]; simp at this; omega
    obtain ⟨pg, e1, e2⟩ := hI3.1.cell hjl
    refine ⟨pg, e1, World.block_lt_of_cell? _ _ e2, ?_⟩
    rw [e2, hps, List.getD, List.getElem?_map, hj]; rfl
  have hb3 := hid hI3.2.1
  clear hI3 hp hd hps
  generalize hbp : adr (io T).reverse[0]? = bp at *
  have hbp' := hid hbp
  clear hbp
  go_wp2_with fail
  have hbp2 := hbp'.out
  subst hbp2
  clear hbp' s2 hmk
  refine wp_QQ (R := (fun e w' => e = .returned (.bool true) ∧ Below w.heap.size w w')) (fun _ _ _ h => h) (chk5 sb eb buy pb qb lb rb cnt rn pc qc lc rc kb cb lim ds M T X P Q rs hrn w3 _ hR3 va n vc w3.heap.size hTn rfl hcell (.slice (some ⟨w3.heap.size, 0, none⟩) 0 n) ⟨World.ownsRow_made w3 _ n (Nat.le_refl _) (by unfold maxLen; omega) (by rw [size_madeCells]; omega), (Below.refl _ w3).alloc (Nat.le_refl _) _⟩ (fun e w' => e = .returned (.bool true) ∧ Below w.heap.size w w') _ ?_ _ rfl)
  intro a w5 v23 x25 hI5 ha
  obtain ⟨U, rfl⟩ : ∃ U, a = gE sb eb buy pb qb lb rb cnt rn pc qc lc rc (.slice va n vc) v23 (.pointer none) x25 (.int .i64 n) U := ⟨_, ha⟩
  clear ha hcell
  unfold gE
  have r1 : w5.cell? ⟨sb, 1, none⟩ = some (.pointer (adr (root T))) := (hI5.2.cell (p := ⟨sb, 1, none⟩) hsb3).trans s1
  obtain ⟨va2, vc2, rfl⟩ := own_form hI5.1
  have hsd5 := hR3.out.bk.side.ofBelow hI5.2
  have hht : ht T ≤ 25 := ht_le hsd5.bal (by omega)
  have hhn : ht T ≤ n + 1 := by
    have : ∀ T : Tr, ht T ≤ (io T).length := by
      intro T
      induction T with
      | nil => simp [ht]
      | node b o u l r ih1 ih2 => simp [ht, io]; omega
    have := this T
    omega
  have C16 : Hid (Calls Ybad.prog 16 #[.pointer (adr (root T)), .slice none 0 0, .int .i64 n, .int .i64 0] w5 fun e w' => ∃ v', e = .returned (.tuple #[v', .int .i8 (ht T), .bool true]) ∧ w'.ownsRow w5.heap.size 34 1 v' ([] ++ io T).length (pts ([] ++ io T)) ∧ Below w5.heap.size w5 w') :=
    walk_c w5.heap.size ds M (fun b hb => (hsd5.lvs b hb).lt) n (by omega) T w5 [] (.slice none 0 0) 0 hsd5.lvs hsd5.rep hsd5.bal hsd5.sub (World.ownsRow_nil _ _ _ _) (Nat.le_refl _) (by simp; omega) (by omega) (by omega)
  have hII := hid hI5
  clear hI5 hsd5 s1
  generalize hrt : adr (root T) = rt at *
  clear hrt
  go_wp2_with fail
  refine C16.out.mono ?_
  rintro e w9 ⟨v9, rfl, hown, hb9⟩
  rw [List.nil_append, hTn] at hown
  obtain ⟨ia, ic, rfl⟩ := own_form hown
  have hv9 : Hid (w9.ownsRow w3.heap.size 34 1 (.slice va2 n vc2) n (pts (io T).reverse)) := own_of hII.out.1 (fun x hx => hb9.block x (hII.out.1.lt x hx).2)
  have hi9 := hid hown
  have hbf : Hid (Below w.heap.size w w9) := by
    have z1 := hb3.out.size
    have z2 := hII.out.2.size
    refine hb3.out.trans ⟨?_, ?_, ?_, ?_, ?_⟩
    · exact hb9.os.trans hII.out.2.os
    · exact hb9.tape.trans hII.out.2.tape
    · exact hb9.output.trans hII.out.2.output
    · exact Nat.le_trans hII.out.2.size hb9.size
    · intro k hk
      rw [hb9.block k (by omega), hII.out.2.block k (by omega)]
  clear C16 hown hb9 r1 hII
  go_wp2_with fail
  refine wp_QQ (R := (fun e w' => e = .returned (.bool true) ∧ Below w.heap.size w w')) (fun _ _ _ h => h) (chk8 sb eb buy pb qb lb rb cnt rn pc qc lc rc w3.heap.size w5.heap.size n va2 ia vc2 ic w9 (io T) hTn (by omega) hv9 hi9 (fun e w' => e = .returned (.bool true) ∧ Below w.heap.size w w') _ ?_ _ rfl)
  intro a q9 ha
  obtain ⟨U, rfl⟩ : ∃ U, a = gH sb eb buy pb qb lb rb cnt rn pc qc lc rc (.slice va2 n vc2) (.slice ia n ic) (.int .i64 n) (.int .i64 n) U := ⟨_, ha⟩
  clear ha
  unfold gH
  clear hv9 hi9
  go_wp2
  go_ret
  exact ⟨rfl, below_drewN hbf.out q9⟩
end Go.Proofs.YbulkdilgDoor
