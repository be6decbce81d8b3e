import Derived.Test.YbulkdilgDoorK6
namespace Go.Proofs.YbulkdilgDoor
open Go.RowKit
set_option maxRecDepth 100000
set_option linter.unusedVariables false
set_option linter.unusedSimpArgs false
set_option linter.unnecessarySimpa false

theorem Chn.at {X : Nat → Nat → Value} {L : List Nat} (h : Chn X L) {t i : Nat} (hi : L[t]? = some i) : X i 7 = .int .u32 (rf (if t = 0 then none else L[t - 1]?)) ∧ X i 8 = .int .u32 (rf L[t + 1]?) := by
  have hlt := (List.getElem?_eq_some_iff.1 hi).1
  have e : L = L.take t ++ i :: L.drop (t + 1) := by
    have h2 : L[t] = i := (List.getElem?_eq_some_iff.1 hi).2
    rw [← h2, ← List.drop_eq_getElem_cons hlt, List.take_append_drop]
  obtain ⟨g1, g2⟩ := h _ i _ e
  refine ⟨?_, ?_⟩
  · rw [g1]
    by_cases h0 : t = 0
    · simp [h0]
    · rw [if_neg h0, List.getLast?_take, if_neg h0]
      cases hx : L[t - 1]? with
      | none =>
        have := List.getElem?_eq_none_iff.1 hx
        omega
      | some x => rfl
  · rw [g2, List.head?_drop]

set_option maxHeartbeats 4000000 in
theorem chk7 (sb eb : Nat) (buy : Bool) (pb qb lb rb cnt rn pc qc lc rc kb cb lim : Nat) (ds : List Nat) (M : Nat → Lv) (T : Tr) (X : Nat → Nat → Value) (P Q : Nat → Int) (rs : List Nat) (w : World) (hB : Hid (Book w sb buy eb kb cb lim ds M T X P Q cnt rs))
    (p : Int) (L : List Nat) (m : Nat) (hL : L = Od P rs p) (hm : L.length = m) (va : Option Addr) (vc Bn : Nat) (hO : Hid (Or w Bn va vc L)) (x17 x23 x24 x25 x26 : Value) (R : Ending → World → Prop) (Qq : Exit → Act → World → Prop)
    (HQ : Hid (∀ a, a = gG sb eb buy pb qb lb rb cnt rn pc qc lc rc x17 x23 x24 x25 x26 (.slice va m vc) (.int .i64 m) (.int .i64 m) (sl a) → QQ R Qq (.exit 12) a w))
    (a : Act) (ha : a = gG sb eb buy pb qb lb rb cnt rn pc qc lc rc x17 x23 x24 x25 x26 (.slice va m vc) (.int .i64 m) (.int .i64 (0 : Nat)) (sl a)) : Code.wp Ybad.prog ((Ybad.f7.body.bind (findLoop 48)).getD .skip) (QQ R Qq) a w := by
  conv => arg 2; whnf
  refine wp_loop_hand (X := Nat) (fun t a wr => wr = w ∧ t ≤ m ∧ a = gG sb eb buy pb qb lb rb cnt rn pc qc lc rc x17 x23 x24 x25 x26 (.slice va m vc) (.int .i64 m) (.int .i64 t) (sl a)) (fun t => m - t) 0 ⟨rfl, Nat.zero_le _, ha⟩ ?_
  clear ha a
  rintro t a wr ⟨rfl, ht, ha⟩ Kc hK
  obtain ⟨U, rfl⟩ : ∃ U, a = gG sb eb buy pb qb lb rb cnt rn pc qc lc rc x17 x23 x24 x25 x26 (.slice va m vc) (.int .i64 m) (.int .i64 t) U := ⟨_, ha⟩
  clear ha
  unfold gG
  have hrl := hB.out.rlen
  have hcle := hB.out.cle
  have hml : m ≤ 1024 := by
    have : L.length ≤ rs.length := by rw [hL]; exact List.length_filter_le _ _
    omega
  by_cases hlt : t < m
  · have hb : L[t]? = some (L[t]'(by omega)) := List.getElem?_eq_getElem _
    generalize (L[t]'(by omega)) = i at hb
    have hir : i ∈ rs := (Od_mem.1 (by rw [← hL]; exact List.mem_of_getElem? hb)).1
    have hi4 : i < 1024 := by have := hB.out.bnd i hir; omega
    have hch := hB.out.chn p
    rw [← hL] at hch
    obtain ⟨e7, e8⟩ := hch.at hb
    have x7 := hB.out.row.cell hi4 (show 7 < 14 by omega)
    rw [e7] at x7
    have x8 := hB.out.row.cell hi4 (show 8 < 14 by omega)
    rw [e8] at x8
    obtain ⟨g, rfl, c1⟩ := hO.out.cell hb
    have C4 := hid (at_c eb kb cb i wr hi4 hB.out.ec hB.out.kc)
    have htm : (t : Int) < (m : Int) := by omega
    by_cases h0 : t = 0
    · subst h0
      rw [if_pos rfl] at x7
      have x7' : wr.cell? ⟨cb, i * 14 + 7, none⟩ = some (.int .u32 0) := x7
      by_cases h1 : 1 < m
      · have hb1 : L[1]? = some (L[1]'(by omega)) := List.getElem?_eq_getElem _
        generalize (L[1]'(by omega)) = i1 at hb1
        obtain ⟨g', e, c2⟩ := hO.out.cell hb1
        obtain rfl : g = g' := by simpa using e
        have x8' : wr.cell? ⟨cb, i * 14 + 8, none⟩ = some (.int .u32 ((i1 : Int) + 1)) := by rw [x8, show L[0 + 1]? = some i1 from hb1]; rfl
        have h1m : (1 : Int) < (m : Int) := by omega
        clear HQ e7 e8 x7 x8 hch hb hb1 e
        go_wp2_with (go_at_call 4; refine C4.out.mono ?_; rintro e w' ⟨rfl, rfl⟩)
        exact hK.out 1 _ _ ⟨rfl, by omega, rfl⟩ (by omega)
      · have x8' : wr.cell? ⟨cb, i * 14 + 8, none⟩ = some (.int .u32 0) := by rw [x8, show L[0 + 1]? = none from List.getElem?_eq_none_iff.2 (by omega)]; rfl
        have h1m : ¬ (1 : Int) < (m : Int) := by omega
        clear HQ e7 e8 x7 x8 hch hb
        go_wp2_with (go_at_call 4; refine C4.out.mono ?_; rintro e w' ⟨rfl, rfl⟩)
        exact hK.out 1 _ _ ⟨rfl, by omega, rfl⟩ (by omega)
    · obtain ⟨s, rfl⟩ : ∃ s, t = s + 1 := ⟨t - 1, by omega⟩
      have hb0 : L[s]? = some (L[s]'(by omega)) := List.getElem?_eq_getElem _
      generalize (L[s]'(by omega)) = i0 at hb0
      obtain ⟨g0, e0, c0⟩ := hO.out.cell hb0
      obtain rfl : g = g0 := by simpa using e0
      have x7' : wr.cell? ⟨cb, i * 14 + 7, none⟩ = some (.int .u32 ((i0 : Int) + 1)) := by rw [x7, if_neg (by omega), Nat.add_sub_cancel, hb0]; rfl
      have hs0 : (s : Int) < (m : Int) := by omega
      by_cases h1 : s + 2 < m
      · have hb1 : L[s + 2]? = some (L[s + 2]'(by omega)) := List.getElem?_eq_getElem _
        generalize (L[s + 2]'(by omega)) = i1 at hb1
        obtain ⟨g', e, c2⟩ := hO.out.cell hb1
        obtain rfl : g = g' := by simpa using e
        have x8' : wr.cell? ⟨cb, i * 14 + 8, none⟩ = some (.int .u32 ((i1 : Int) + 1)) := by rw [x8, show L[s + 1 + 1]? = some i1 from hb1]; rfl
        have h1m : (s : Int) + 1 + 1 < (m : Int) := by omega
        clear HQ e7 e8 x7 x8 hch hb hb1 hb0 e e0
        go_wp2_with (go_at_call 4; refine C4.out.mono ?_; rintro e w' ⟨rfl, rfl⟩)
        exact hK.out (s + 2) _ _ ⟨rfl, by omega, rfl⟩ (by omega)
      · have x8' : wr.cell? ⟨cb, i * 14 + 8, none⟩ = some (.int .u32 0) := by rw [x8, show L[s + 1 + 1]? = none from List.getElem?_eq_none_iff.2 (by omega)]; rfl
        have h1m : ¬ (s : Int) + 1 + 1 < (m : Int) := by omega
        clear HQ e7 e8 x7 x8 hch hb hb0 e0
        go_wp2_with (go_at_call 4; refine C4.out.mono ?_; rintro e w' ⟨rfl, rfl⟩)
        exact hK.out (s + 2) _ _ ⟨rfl, by omega, rfl⟩ (by omega)
  · obtain rfl : t = m := by omega
    clear hK
    go_wp2_with fail
    exact HQ.out _ rfl
end Go.Proofs.YbulkdilgDoor
