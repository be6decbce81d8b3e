import Derived.Test.YbulkdilgDoorK7
import Derived.Test.YbulkdilgDoorK8
namespace Go.Proofs.YbulkdilgDoor
open Go.RowKit
set_option maxRecDepth 100000
set_option linter.unusedVariables false
set_option linter.unusedSimpArgs false
set_option linter.unnecessarySimpa false

/-- The prices, best first. -/
def pl (M : Nat → Lv) (S : List Nat) : List Int := S.reverse.map (fun b => (M b).price)
theorem pl_len (M : Nat → Lv) (S : List Nat) : (pl M S).length = S.length := by simp [pl]

theorem own_of {w w' : World} {base : Nat} {e : TypeId} {v : Value} {n : Nat} {xs : List Value} (h : w.ownsRow base e 1 v n xs) (hk : ∀ g, v.ownBlock = some g → w'.heap[g]? = w.heap[g]?) : w'.ownsRow base e 1 v n xs := by
  obtain ⟨h1, h2 | ⟨g, cap, cur, rfl, h3, h4, h5⟩⟩ := h
  · exact ⟨h1, .inl h2⟩
  · exact ⟨h1, .inr ⟨g, cap, cur, rfl, h3, (hk g rfl).trans h4, h5⟩⟩
theorem QQ_exit' {R : Ending → World → Prop} {X : Exit → Act → World → Prop} {i : Nat} {a : Act} {w : World} (h : X (.exit i) a w) : QQ R X (.exit i) a w := h

set_option maxHeartbeats 8000000 in
theorem chk5 (sb eb : Nat) (buy : Bool) (pb qb lb rb cnt rn pc qc lc rc kb cb lim : Nat) (ds : List Nat) (M : Nat → Lv) (T : Tr) (X : Nat → Nat → Value) (P Q : Nat → Int) (rs : List Nat) (hrn : rs.length = rn) (wl w0 : World) (hR : Hid (Rd wl sb buy eb kb cb lim pb qb lb rb ds M T X P Q cnt rs))
    (pa : Option Addr) (n vc Bl : Nat) (hn : (io T).length = n) (hBl : wl.heap.size = Bl) (hps : Hid (∀ j b, (io T).reverse[j]? = some b → ∃ pg, pa = some ⟨pg, 0, none⟩ ∧ pg < Bl ∧ wl.cell? ⟨pg, j, none⟩ = some (.int .i64 (M b).price)))
    (v0 : Value) (h0 : w0.ownsRow Bl 34 1 v0 0 [] ∧ Below Bl wl w0) (R : Ending → World → Prop) (Qq : Exit → Act → World → Prop)
    (HQ : Hid (∀ a wr v23 x25, wr.ownsRow Bl 34 1 v23 n (pts (io T).reverse) ∧ Below Bl wl wr → a = gE sb eb buy pb qb lb rb cnt rn pc qc lc rc (.slice pa n vc) v23 (.pointer none) x25 (.int .i64 n) (sl a) → Qq (.exit 8) a wr))
    (a : Act) (ha : a = gE sb eb buy pb qb lb rb cnt rn pc qc lc rc (.slice pa n vc) v0 (.pointer (adr (io T).reverse[0]?)) (.pointer none) (.int .i64 (0 : Nat)) (sl a)) : Code.wp Ybad.prog ((Ybad.f7.body.bind (findLoop 30)).getD .skip) (QQ R Qq) a w0 := by
  conv => arg 2; whnf
  refine wp_loop_hand (X := Nat) (fun j a wr => ∃ v23, j ≤ n ∧ (wr.ownsRow Bl 34 1 v23 j (pts ((io T).reverse.take j)) ∧ Below Bl wl wr) ∧ a = gE sb eb buy pb qb lb rb cnt rn pc qc lc rc (.slice pa n vc) v23 (.pointer (adr (io T).reverse[j]?)) (.pointer (adr (pv (io T).reverse j))) (.int .i64 j) (sl a)) (fun j => n - j) 0 ⟨v0, Nat.zero_le _, by simpa [pts] using h0, ha⟩ ?_
  clear ha a h0
  rintro j a wr ⟨v23, hj, hI, ha⟩ Kc hK
  obtain ⟨U, rfl⟩ : ∃ U, a = gE sb eb buy pb qb lb rb cnt rn pc qc lc rc (.slice pa n vc) v23 (.pointer (adr (io T).reverse[j]?)) (.pointer (adr (pv (io T).reverse j))) (.int .i64 j) U := ⟨_, ha⟩
  clear ha
  unfold gE
  have hrl := hR.out.bk.rlen
  have htl := hR.out.bk.tlen
  have hcle := hR.out.bk.cle
  by_cases hlt : j < n
  · have hb : (io T).reverse[j]? = some ((io T).reverse[j]'(by simp; omega)) := List.getElem?_eq_getElem _
    generalize ((io T).reverse[j]'(by simp; omega)) = b at hb
    have hbm : b ∈ io T := List.mem_reverse.1 (List.mem_of_getElem? hb)
    have hsd := hR.out.bk.side
    obtain ⟨hw, hbt⟩ := lnk_rev hsd.lnk hb
    have hbd := hsd.sub b hbm
    have hLb0 := hsd.lvs b hbd
    have hbB : b < Bl := by have := hLb0.lt; omega
    have hLb : Lev wr b (M b) := hLb0.of (hI.2.block b hbB)
    obtain ⟨pg, rfl, hpg, cj0⟩ := hps.out j b hb
    have cj : wr.cell? ⟨pg, j, none⟩ = some (.int .i64 (M b).price) := (hI.2.cell (p := ⟨pg, j, none⟩) hpg).trans cj0
    have cp := hLb.price
    have cb' := hLb.better
    rw [hbt] at cb'
    have hne := fun w => neq_same (pv (io T).reverse j) w
    have hjn : (j : Int) < (n : Int) := by omega
    rw [hb, adr_some]
    have hts : (io T).reverse.take (j + 1) = (io T).reverse.take j ++ [b] := by
      rw [List.take_add_one, hb]; rfl
    have hpv : pv (io T).reverse (j + 1) = some b := by
      unfold pv; rw [if_neg (by omega), Nat.add_sub_cancel]; exact hb
    have hTS := hid (And.intro hts (And.intro hpv hI))
    have hsz : Bl ≤ wr.heap.size := by have := hI.2.size; omega
    have hLH := hid (And.intro hLb (And.intro hw (And.intro hbm hbB)))
    clear HQ hb hw hbt hbm hLb0 hLb hts hpv hI hbd cj0 hsd
    generalize hX : (io T).reverse[j + 1]? = Xn at *
    have hX' := hid hX
    clear hX
    generalize hPv : adr (pv (io T).reverse j) = Pv at *
    have hP' := hid hPv
    clear hPv
    go_wp2_with fail
    go_quiet (fail)
    go_wp2_with fail
    have hbw : Below wl.heap.size wl (wr.drewN nq) := by rw [hBl]; exact below_drewN hTS.out.2.2.2 nq
    refine wp_QQ (R := R) (fun _ _ _ h => h) (chk6 sb eb buy pb qb lb rb cnt rn pc qc lc rc kb cb lim ds M T X P Q rs hrn wl (wr.drewN nq) hR pg j n vc v23 (.pointer (some ⟨b, 0, none⟩)) (.pointer Pv) (M b).price hlt wr.heap.size (by omega) (by omega) ⟨Below.refl _ _, hbw, cj, Nat.le_refl _⟩ R _ ?_ _ rfl)
    intro a w6 va6 vc6 hI6 ha
    obtain ⟨U, rfl⟩ : ∃ U, a = gF sb eb buy pb qb lb rb cnt rn pc qc lc rc (.slice (some ⟨pg, 0, none⟩) n vc) v23 (.pointer (some ⟨b, 0, none⟩)) (.pointer Pv) (.int .i64 j) (.slice va6 (Od P rs (M b).price).length vc6) (.int .u64 (sm Q (Od P rs (M b).price))) (.int .i64 rn) U := ⟨_, ha⟩
    clear ha
    unfold gF
    obtain ⟨hne6, hdat⟩ := hR.out.bk.lvl b hLH.out.2.2.1
    simp only [data, Prod.mk.injEq] at hdat
    obtain ⟨_, d1, d2, d3, d4, d5⟩ := hdat
    have hb6 : Below Bl wl w6 := hTS.out.2.2.2.trans ⟨hI6.2.os, hI6.2.tape, hI6.2.output, hI6.2.size, fun x hx => hI6.2.block x (by omega)⟩
    have hL6 : Lev w6 b (M b) := hLH.out.1.of (hI6.2.block b (by have := hLH.out.1.lt; omega))
    have o1 := hL6.at 1 (.int .u64 (M b).hi) rfl
    have o2 := hL6.at 2 (.int .u64 (M b).lo) rfl
    have o3 := hL6.at 3 (.int .i64 (M b).orders) rfl
    have o4 := hL6.at 4 (.int .u32 (M b).head) rfl
    have o5 := hL6.at 5 (.int .u32 (M b).tail) rfl
    rw [d1] at o1
    rw [d2] at o2
    rw [d3] at o3
    rw [d4] at o4
    rw [d5] at o5
    have hOl : (Od P rs (M b).price).length ≤ rs.length := List.length_filter_le _ _
    obtain ⟨O, hO⟩ : ∃ O, O = Od P rs (M b).price := ⟨_, rfl⟩
    have hO' := hid hO
    rw [← hO] at hne6 o2 o3 o4 o5 hI6 hOl
    simp only [← hO]
    generalize hom : O.length = om at *
    have hop : 0 < om := by
      rw [← hom]
      exact List.length_pos_iff.2 hne6
    obtain ⟨fi, hfi⟩ : ∃ fi, O[0]? = some fi := ⟨_, List.getElem?_eq_getElem (by omega)⟩
    obtain ⟨la, hla⟩ : ∃ la, O[om - 1]? = some la := ⟨_, List.getElem?_eq_getElem (by omega)⟩
    have hOr : Or w6 wr.heap.size va6 vc6 O := by
      have := hI6.1
      exact this
    obtain ⟨g6, rfl, e1⟩ := hOr.cell hfi
    obtain ⟨g7, e, e2⟩ := hOr.cell hla
    obtain rfl : g6 = g7 := by simpa using e
    rw [List.head?_eq_getElem?, hfi] at o4
    rw [List.getLast?_eq_getElem?, hom, hla] at o5
    have o4' : w6.cell? ⟨b, 4, none⟩ = some (.int .u32 ((fi : Int) + 1)) := o4
    have o5' : w6.cell? ⟨b, 5, none⟩ = some (.int .u32 ((la : Int) + 1)) := o5
    have hom1 : (om : Int) - 1 = ((om - 1 : Nat) : Int) := by omega
    have hom2 : ((om - 1 : Nat) : Int) < (om : Int) := by omega
    have hom3 : (0 : Int) < (om : Int) := by omega
    have hHH := hid (And.intro hOr (And.intro hb6 (And.intro hI6.2 hL6)))
    generalize hsmv : sm Q O = sv at *
    clear hsmv
    clear o4 o5 hOr hb6 hI6 hL6 d1 d2 d3 d4 d5 hfi hla e hO hne6 cp cj cb' hne hbw
    refine QQ_exit' ?_
    go_wp2_with fail
    go_quiet (fail)
    go_wp2_with fail
    have hB7 : Hid (Book (w6.drewN nq) sb buy eb kb cb lim ds M T X P Q cnt rs) := hR.out.bk.ofBelow (by rw [hBl]; exact below_drewN hHH.out.2.1 _)
    refine wp_QQ (R := R) (fun _ _ _ h => h) (chk7 sb eb buy pb qb lb rb cnt rn pc qc lc rc kb cb lim ds M T X P Q rs (w6.drewN nq) hB7 (M b).price O om hO'.out hom (some ⟨g6, 0, none⟩) vc6 wr.heap.size (hid (by rw [Or, hom]; have h1 := hHH.out.1; rw [Or, hom] at h1; exact h1)) (.slice (some ⟨pg, 0, none⟩) n vc) v23 (.pointer (some ⟨b, 0, none⟩)) (.pointer Pv) (.int .i64 j) R _ ?_ _ rfl)
    intro a ha
    obtain ⟨U, rfl⟩ : ∃ U, a = gG sb eb buy pb qb lb rb cnt rn pc qc lc rc (.slice (some ⟨pg, 0, none⟩) n vc) v23 (.pointer (some ⟨b, 0, none⟩)) (.pointer Pv) (.int .i64 j) (.slice (some ⟨g6, 0, none⟩) om vc6) (.int .i64 om) (.int .i64 om) U := ⟨_, ha⟩
    clear ha
    unfold gG
    refine QQ_exit' ?_
    have hown6 : Hid (w6.ownsRow Bl 34 1 v23 j (pts ((io T).reverse.take j))) := own_of hTS.out.2.2.1 (fun x hx => hHH.out.2.2.1.block x (hTS.out.2.2.1.lt x hx).2)
    have hs6 : Bl ≤ w6.heap.size := by have := hHH.out.2.2.1.size; rw [show (wr.drewN _).heap.size = wr.heap.size from rfl] at this; omega
    obtain ⟨i0, hi0, hz0, hz1, hz2⟩ := info_parts info34
    clear hB7 o1 o2 o3 o4' o5' e1 e2 hps
    go_wp2_with (at_builtin; refine wpList_append_lies _ rfl (.tmp 325) (.tmp 327) 63 rfl Bl 34 i0 (.pointer none) 1 8 Ybad.underlying63 hi0 hz0 hz1 hz2 rfl (by decide) v23 j (pts ((io T).reverse.take j)) rfl (World.ownsRow.alloc (show World.ownsRow (w6.drewN nq) _ _ _ _ _ _ from hown6.out) _) ⟨w6.heap.size, 0, none⟩ 1 1 [.pointer (some ⟨b, 0, none⟩)] rfl rfl (cell_one_new _ _ _) (by simp [Value.oneCell']) (by decide) (by unfold maxLen; omega) (by omega) (by simp; omega) (w6.heap.size + 1) (by simp) ?_)
    intro g cap w9 hown hgrow hat hlg
    have hb9 : Below Bl wl w9 := ((below_drewN hHH.out.2.1 nq).alloc hs6 _).trans (below_grown hgrow (fun k hk => (hown6.out.lt k hk).1) (by rw [← World.alloc_eq]; simp; omega))
    have cw : w9.cell? ⟨b, 6, none⟩ = some (.pointer (adr Xn)) := by
      have h1 : w9.cell? ⟨b, 6, none⟩ = wl.cell? ⟨b, 6, none⟩ := hb9.cell (p := ⟨b, 6, none⟩) hbB
      have h2 : wr.cell? ⟨b, 6, none⟩ = wl.cell? ⟨b, 6, none⟩ := hTS.out.2.2.2.cell (p := ⟨b, 6, none⟩) hbB
      rw [h1, ← h2, hLH.out.1.worse, hLH.out.2.1]
    have hF := hid (And.intro hown hb9)
    clear hown hgrow hat hb9 hi0 hz0 hz1 hz2
    generalize hY : adr Xn = Y at *
    have hY' := hid hY
    clear hY
    go_wp2
    refine hK.out (j + 1) _ _ ⟨.slice (some ⟨g, 0, none⟩) (j + 1) cap, by omega, ⟨?_, hF.out.2⟩, ?_⟩ (by omega)
    · rw [hTS.out.1, pts_app]; exact hF.out.1
    · rw [hTS.out.2.1, hX'.out, hY'.out]; rfl
  · obtain rfl : j = n := by omega
    have e : (io T).reverse.take j = (io T).reverse := List.take_of_length_le (by simp; omega)
    have e2 : (io T).reverse[j]? = none := List.getElem?_eq_none_iff.2 (by simp; omega)
    rw [e] at hI
    rw [e2, adr_none]
    generalize adr (pv (io T).reverse j) = Pv at *
    clear hK
    go_wp2_with fail
    exact HQ.out _ _ v23 _ hI rfl
end Go.Proofs.YbulkdilgDoor
