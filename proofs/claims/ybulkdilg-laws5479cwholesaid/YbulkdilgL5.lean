import Derived.Test.YbulkdilgL4
namespace Go.Proofs.Ybulkdilg
open Go.RowKit
set_option linter.unusedVariables false
set_option linter.unusedSimpArgs false
set_option linter.unnecessarySimpa false
set_option maxRecDepth 100000

theorem neq_same (x : Option Nat) (w : World) : (binOp .neq 29 (.pointer (adr x)) (.pointer (adr x))).run Yba.prog w = .ok (.bool false) w := by
  cases x with
  | none => exact ne_nil w none
  | some a =>
    obtain ⟨j, hj, hs⟩ := Option.map_eq_some_iff.1 info41
    have h : ∀ d : Nat, (Op.equalIn (d + 1) 29 (.pointer (some ⟨a, 0, none⟩)) (.pointer (some ⟨a, 0, none⟩))).run Yba.prog w = .ok true w := fun d => by
      simp [Op.equalIn, run_underlying Yba.underlying29, sizeOf, typeInfo, hj, run_sameAddr_same]
    rw [adr_some]
    simp only [binOp]
    simp [Op.equal, Op.maxDepth, h 9999]

set_option maxHeartbeats 4000000 in
theorem loop5 (buy : Bool) (kk : Int) (sa : Option Addr) (n sc : Nat) (sb l ge ec Bn m : Nat) (w0 w : World) (ds : List Nat) (M : Nat → Lv) (T : Tr) (hs : Hid (Side w0 sb buy none ds M T)) (hl : Hid (l ∉ io T ∧ l ∈ ds)) (hm : (io T).length = m) (hm5 : m ≤ 5000) (hBn : w0.heap.size = Bn)
    (hE : Hid (∀ i, i < m → w0.cell? ⟨ge, i, none⟩ = some (.int .i64 ((pl M (io T)).getD i 0)))) (hge : ge < Bn) (v0 : Value) (R : Ending → World → Prop) (Q : Exit → Act → World → Prop)
    (h0 : w.ownsRow Bn 29 1 v0 0 [] ∧ Below Bn w0 w)
    (HQ : Hid (∀ a wr v29 x30, wr.ownsRow Bn 29 1 v29 m (pts (io T).reverse) ∧ Below Bn w0 wr → a = fE buy kk sa n sc sb (.pointer (some ⟨l, 0, none⟩)) (.slice (some ⟨ge, 0, none⟩) m ec) v29 x30 (.pointer none) (.int .i64 m) (sl a) → Q (.exit 8) a wr))
    (a : Act) (ha : a = fE buy kk sa n sc sb (.pointer (some ⟨l, 0, none⟩)) (.slice (some ⟨ge, 0, none⟩) m ec) v0 (.pointer none) (.pointer (adr (io T).reverse[0]?)) (.int .i64 (0 : Nat)) (sl a)) : Code.wp Yba.prog ((Yba.f3.body.bind (findLoop 51)).getD .skip) (QQ R Q) a w := by
  conv => arg 2; whnf
  refine wp_loop_hand (X := Nat) (fun i a wr => ∃ v29, i ≤ m ∧ (wr.ownsRow Bn 29 1 v29 i (pts ((io T).reverse.take i)) ∧ Below Bn w0 wr) ∧ a = fE buy kk sa n sc sb (.pointer (some ⟨l, 0, none⟩)) (.slice (some ⟨ge, 0, none⟩) m ec) v29 (.pointer (adr (pv (io T).reverse i))) (.pointer (adr (io T).reverse[i]?)) (.int .i64 i) (sl a)) (fun i => m - i) 0 ⟨v0, Nat.zero_le _, by simpa [pts] using h0, ha⟩ ?_
  clear ha a h0
  rintro i a wr ⟨v29, hi, hI, ha⟩ Kc hK
  obtain ⟨U, rfl⟩ : ∃ U, a = fE buy kk sa n sc sb (.pointer (some ⟨l, 0, none⟩)) (.slice (some ⟨ge, 0, none⟩) m ec) v29 (.pointer (adr (pv (io T).reverse i))) (.pointer (adr (io T).reverse[i]?)) (.int .i64 i) U := ⟨_, ha⟩
  clear ha
  unfold fE
  by_cases hlt : i < m
  · have hb : (io T).reverse[i]? = some ((io T).reverse[i]'(by simp; omega)) := List.getElem?_eq_getElem _
    generalize ((io T).reverse[i]'(by simp; omega)) = b at hb
    have hbm : b ∈ io T := List.mem_reverse.1 (List.mem_of_getElem? hb)
    obtain ⟨hw, hbt⟩ := lnk_rev hs.out.lnk hb
    have hbd := hs.out.sub b hbm
    have hLb0 := hs.out.lvs b hbd
    have hLl0 := hs.out.lvs l hl.out.2
    have hbl : b ≠ l := fun e => hl.out.1 (e ▸ hbm)
    have hbB : b < Bn := by have := hLb0.lt; omega
    have hlB : l < Bn := by have := hLl0.lt; omega
    have hLb : Lev wr b (M b) := hLb0.of (hI.2.block b hbB)
    have hLl : Lev wr l (M l) := hLl0.of (hI.2.block l hlB)
    have hpr : (pl M (io T)).getD i 0 = (M b).price := by
      unfold pl
      rw [List.getD, List.getElem?_map, hb]; rfl
    have cE : wr.cell? ⟨ge, i, none⟩ = some (.int .i64 (M b).price) := by
      rw [hI.2.cell (p := ⟨ge, i, none⟩) hge, hE.out i hlt, hpr]
    have cp := hLb.price
    have cw := hLb.worse
    have cb := hLb.better
    rw [hw] at cw
    rw [hbt] at cb
    have heq : ∀ q, (binOp .eql 29 (.pointer (some ⟨b, 0, none⟩)) (.pointer (some ⟨l, 0, none⟩))).run Yba.prog (wr.drewN q) = .ok (.bool false) (wr.drewN q) := fun q => by
      have := eql_ptr (w := wr.drewN q) hLb hLl
      rw [this]; simp [hbl]
    have hne := fun w => neq_same (pv (io T).reverse i) w
    rw [hb, adr_some]
    have hts : (io T).reverse.take (i + 1) = (io T).reverse.take i ++ [b] := by
      rw [List.take_add_one, hb]; rfl
    have hpv : pv (io T).reverse (i + 1) = some b := by
      unfold pv; rw [if_neg (by omega), Nat.add_sub_cancel]; exact hb
    have hTS := hid (And.intro hts (And.intro hpv hI))
    have hsz : Bn ≤ wr.heap.size := by have := hI.2.size; omega
    have hH := hid (And.intro hLb (And.intro hbB hbm))
    clear HQ hb hw hbt hbm hLb0 hLl0 hLb hLl hts hpv hI hpr hbd
    generalize hX : (io T).reverse[i + 1]? = X at *
    have hX' := hid hX
    clear hX
    generalize hY : adr X = Y at *
    have hY' := hid hY
    clear hY
    generalize hP : adr (pv (io T).reverse i) = P at *
    have hP' := hid hP
    clear hP
    obtain ⟨i0, hi0, hz0, hz1, hz2⟩ := info_parts info29
    go_wp2_with fail
    go_quiet (fail)
    go_wp2_with (at_builtin; refine wpList_append_lies _ rfl (.tmp 260) (.tmp 262) 46 rfl Bn 29 i0 (.pointer none) 1 8 Yba.underlying46 hi0 hz0 hz1 hz2 rfl (by decide) v29 i (pts ((io T).reverse.take i)) rfl (World.ownsRow.alloc (show World.ownsRow (wr.drewN _) _ _ _ _ _ _ from hTS.out.2.2.1) _) ⟨wr.heap.size, 0, none⟩ 1 1 [.pointer (some ⟨b, 0, none⟩)] rfl rfl (cell_one_new _ _ _) (by simp [Value.oneCell']) (by decide) (by unfold maxLen; omega) (by omega) (by simp; omega) (wr.heap.size + 1) (by simp) ?_)
    intro g cap w2 hown hgrow hat hlg
    have hvb : ∀ k, v29.ownBlock = some k → Bn ≤ k := fun k hk => (hTS.out.2.2.1.lt k hk).1
    have hb2 : Below Bn w0 w2 := ((below_drewN hTS.out.2.2.2 nq).alloc (by simpa using hsz) _).trans (below_grown hgrow hvb (by rw [← World.alloc_eq]; simp; omega))
    have cw2 : w2.cell? ⟨b, 6, none⟩ = some (.pointer Y) := by
      have h1 : w2.cell? ⟨b, 6, none⟩ = w0.cell? ⟨b, 6, none⟩ := hb2.cell (p := ⟨b, 6, none⟩) hH.out.2.1
      have h2 : wr.cell? ⟨b, 6, none⟩ = w0.cell? ⟨b, 6, none⟩ := hTS.out.2.2.2.cell (p := ⟨b, 6, none⟩) hH.out.2.1
      rw [h1, ← h2]; exact cw
    have hF := hid (And.intro hown hb2)
    clear hown hgrow hat hvb hb2 cw cb cp cE heq hne hi0 hz0 hz1 hz2
    go_wp2
    refine hK.out (i + 1) _ _ ⟨.slice (some ⟨g, 0, none⟩) (i + 1) cap, by omega, ⟨?_, hF.out.2⟩, ?_⟩ (by omega)
    · rw [hTS.out.1, pts_app]; exact hF.out.1
    · rw [hTS.out.2.1, hX'.out, hY'.out]; rfl
  · obtain rfl : i = m := by omega
    have e : (io T).reverse.take i = (io T).reverse := List.take_of_length_le (by simp; omega)
    have e2 : (io T).reverse[i]? = none := List.getElem?_eq_none_iff.2 (by simp; omega)
    rw [e] at hI
    rw [e2, adr_none]
    generalize adr (pv (io T).reverse i) = P at *
    clear hK
    go_wp2_with fail
    exact HQ.out _ _ v29 _ hI rfl
end Go.Proofs.Ybulkdilg
