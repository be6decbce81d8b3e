import Derived.Test.YbulkdilgDoorCon
namespace Go.Proofs.YbulkdilgDoor
open Go.RowKit
set_option maxRecDepth 100000
set_option linter.unusedVariables false
set_option linter.unusedSimpArgs false
set_option linter.unnecessarySimpa false

def rfs (L : List Nat) : List Value := L.map (fun (i : Nat) => Value.int .u32 ((i : Int) + 1))
theorem rfs_app (A B : List Nat) : rfs (A ++ B) = rfs A ++ rfs B := by simp [rfs]
theorem rfs_get {L : List Nat} {t i : Nat} (h : L[t]? = some i) : (rfs L)[t]? = some (.int .u32 ((i : Int) + 1)) := by simp [rfs, h]
theorem info42 : (Ybad.prog.info? 42).map (fun i => (i.zero, i.size, i.bytes)) = some (some (.int .u32 0), 1, 4) := by kernel_rfl
/-- The refs, in a row of the call's own. -/
def Or (w : World) (base : Nat) (va : Option Addr) (vc : Nat) (L : List Nat) : Prop := w.ownsRow base 42 1 (.slice va L.length vc) L.length (rfs L)
theorem Or.cell {w : World} {base : Nat} {va : Option Addr} {vc : Nat} {L : List Nat} (h : Or w base va vc L) {t i : Nat} (hi : L[t]? = some i) : ∃ g, va = some ⟨g, 0, none⟩ ∧ w.cell? ⟨g, t, none⟩ = some (.int .u32 ((i : Int) + 1)) := by
  have hlt := (List.getElem?_eq_some_iff.1 hi).1
  obtain ⟨g, cap, e, _, _⟩ := h.form (by omega)
  obtain ⟨e1, e2⟩ : va = some ⟨g, 0, none⟩ ∧ vc = cap := by simpa using e
  subst e1
  refine ⟨g, rfl, ?_⟩
  have := h.cells (g := g) rfl t _ (rfs_get hi)
  rwa [add_at, Nat.zero_add] at this
theorem Od_take {P : Nat → Int} {rs : List Nat} {k i : Nat} {p : Int} (h : rs[k]? = some i) : Od P (rs.take (k + 1)) p = Od P (rs.take k) p ++ (if P i = p then [i] else []) := by
  have hk : k < rs.length := (List.getElem?_eq_some_iff.1 h).1
  unfold Od
  rw [List.take_succ_eq_append_getElem hk, List.filter_append, show rs[k] = i from (List.getElem?_eq_some_iff.1 h).2]
  congr 1
  by_cases e : P i = p <;> simp [e]

set_option maxHeartbeats 4000000 in
theorem chk6 (sb eb : Nat) (buy : Bool) (pb qb lb rb cnt rn pc qc lc rc kb cb lim : Nat) (ds : List Nat) (M : Nat → Lv) (T : Tr) (X : Nat → Nat → Value) (P Q : Nat → Int) (rs : List Nat) (hrn : rs.length = rn) (w w0 : World) (hR : Hid (Rd w sb buy eb kb cb lim pb qb lb rb ds M T X P Q cnt rs))
    (pg j n vc : Nat) (x23 x24 x25 : Value) (p : Int) (hjn : j < n) (Bn : Nat) (hBn : w.heap.size ≤ Bn) (hpg : pg < Bn) (h0 : Below Bn w0 w0 ∧ Below w.heap.size w w0 ∧ w0.cell? ⟨pg, j, none⟩ = some (.int .i64 p) ∧ Bn ≤ w0.heap.size) (R : Ending → World → Prop) (Qq : Exit → Act → World → Prop)
    (HQ : Hid (∀ a wr va vc', Or wr Bn va vc' (Od P rs p) ∧ Below Bn w0 wr → a = gF sb eb buy pb qb lb rb cnt rn pc qc lc rc (.slice (some ⟨pg, 0, none⟩) n vc) x23 x24 x25 (.int .i64 j) (.slice va (Od P rs p).length vc') (.int .u64 (sm Q (Od P rs p))) (.int .i64 rn) (sl a) → QQ R Qq (.exit 10) a wr))
    (a : Act) (ha : a = gF sb eb buy pb qb lb rb cnt rn pc qc lc rc (.slice (some ⟨pg, 0, none⟩) n vc) x23 x24 x25 (.int .i64 j) (.slice none 0 0) (.int .u64 0) (.int .i64 (0 : Nat)) (sl a)) : Code.wp Ybad.prog ((Ybad.f7.body.bind (findLoop 37)).getD .skip) (QQ R Qq) a w0 := by
  conv => arg 2; whnf
  refine wp_loop_hand (X := Nat) (fun k a wr => ∃ va vc', k ≤ rn ∧ (Or wr Bn va vc' (Od P (rs.take k) p) ∧ Below Bn w0 wr) ∧ a = gF sb eb buy pb qb lb rb cnt rn pc qc lc rc (.slice (some ⟨pg, 0, none⟩) n vc) x23 x24 x25 (.int .i64 j) (.slice va (Od P (rs.take k) p).length vc') (.int .u64 (sm Q (Od P (rs.take k) p))) (.int .i64 k) (sl a)) (fun k => rn - k) 0 ⟨none, 0, Nat.zero_le _, ⟨World.ownsRow_nil _ _ _ _, h0.1⟩, ha⟩ ?_
  clear ha a
  rintro k a wr ⟨va, vc', hk, hI, ha⟩ Kc hK
  obtain ⟨U, rfl⟩ : ∃ U, a = gF sb eb buy pb qb lb rb cnt rn pc qc lc rc (.slice (some ⟨pg, 0, none⟩) n vc) x23 x24 x25 (.int .i64 j) (.slice va (Od P (rs.take k) p).length vc') (.int .u64 (sm Q (Od P (rs.take k) p))) (.int .i64 k) U := ⟨_, ha⟩
  clear ha
  unfold gF
  have hrl := hR.out.bk.rlen
  have hcle := hR.out.bk.cle
  have hol : (Od P (rs.take k) p).length ≤ k := Nat.le_trans (List.length_filter_le _ _) (by simp; omega)
  have hsm := sm_nonneg hR.out.bk.qty (Od P (rs.take k) p)
  by_cases hlt : k < rn
  · have hb : rs[k]? = some (rs[k]'(by omega)) := List.getElem?_eq_getElem _
    generalize (rs[k]'(by omega)) = i at hb
    have hic := hR.out.bk.bnd i (List.mem_of_getElem? hb)
    have hq := hR.out.bk.qty i
    have hbw : Below w.heap.size w wr := h0.2.1.trans ⟨hI.2.os, hI.2.tape, hI.2.output, hI.2.size, fun x hx => hI.2.block x (by omega)⟩
    have hR2 := hR.out.ofBelow hbw
    have cr := hR2.cr k i hb
    have cp := hR2.cp i hic
    have cq := hR2.cq i hic
    have cj : wr.cell? ⟨pg, j, none⟩ = some (.int .i64 p) := (hI.2.cell (p := ⟨pg, j, none⟩) hpg).trans h0.2.2.1
    have hod := hid (Od_take (P := P) (p := p) hb)
    have hicc : (i : Int) < (cnt : Int) := by omega
    have hkr : (k : Int) < (rn : Int) := by omega
    have hjnn : (j : Int) < (n : Int) := by omega
    generalize Od P (rs.take k) p = L at *
    have hII := hid hI
    have hsz : Bn ≤ wr.heap.size := by have := hI.2.size; omega
    clear HQ hR2 hI hb hbw
    by_cases hm : P i = p
    · have hnew : Hid (Od P (rs.take (k + 1)) p = L ++ [i]) := by
        show _ = _
        rw [hod.out, if_pos hm]
      rw [hm] at cp
      obtain ⟨i0, hi0, hz0, hz1, hz2⟩ := info_parts info42
      have hQi : 0 ≤ Q i := hq.1
      have hQ2 : Q i < 4294967296 := hq.2
      have hs1 : 0 ≤ sm Q L := hsm.1
      have hs2 : sm Q L + Q i < 18446744073709551616 := by omega
      go_wp2_with fail
      go_quiet (fail)
      go_wp2_with (at_builtin; refine wpList_append_lies _ rfl (.tmp 232) (.tmp 236) 30 rfl Bn 42 i0 (.int .u32 0) 1 4 Ybad.underlying30 hi0 hz0 hz1 hz2 rfl (by decide) (.slice va L.length vc') L.length (rfs L) rfl (World.ownsRow.alloc (show World.ownsRow (wr.drewN _) _ _ _ _ _ _ from hII.out.1) _) ⟨wr.heap.size, 0, none⟩ 1 1 [.int .u32 ((i : Int) + 1)] rfl rfl (cell_one_new _ _ _) (by simp [Value.oneCell']) (by decide) (by unfold maxLen; omega) (by omega) (by simp; omega) (wr.heap.size + 1) (by simp) ?_)
      intro g cap w2 hown hgrow hat hlg
      have hb2 : Below Bn w0 w2 := ((below_drewN hII.out.2 nq).alloc hsz _).trans (below_grown hgrow (fun k hk => (hII.out.1.lt k hk).1) (by rw [← World.alloc_eq]; simp; omega))
      have cq2 : w2.cell? ⟨qb, i, none⟩ = some (.int .i64 (Q i)) := by
        have hqb : qb < Bn := by have := hR.out.lt.2.1; omega
        have h1 : w2.cell? ⟨qb, i, none⟩ = w0.cell? ⟨qb, i, none⟩ := hb2.cell (p := ⟨qb, i, none⟩) hqb
        have h2 : wr.cell? ⟨qb, i, none⟩ = w0.cell? ⟨qb, i, none⟩ := hII.out.2.cell (p := ⟨qb, i, none⟩) hqb
        rw [h1, ← h2]; exact cq
      have hF := hid (And.intro hown hb2)
      clear hown hgrow hat hb2 hi0 hz0 hz1 hz2 cr cp cj cq
      go_wp2
      have hlen : (Od P (rs.take (k + 1)) p).length = L.length + 1 := by rw [hnew.out]; simp
      have hsum : sm Q (Od P (rs.take (k + 1)) p) = sm Q L + Q i := by rw [hnew.out, sm_app]; simp [sm]
      refine hK.out (k + 1) _ _ ⟨some ⟨g, 0, none⟩, cap, by omega, ⟨?_, hF.out.2⟩, ?_⟩ (by omega)
      · unfold Or
        rw [hlen, hnew.out, rfs_app]; exact hF.out.1
      · rw [hlen, hsum]; rfl
    · have hnew : Hid (Od P (rs.take (k + 1)) p = L) := by
        show _ = _
        rw [hod.out, if_neg hm, List.append_nil]
      have hpe : (P i == p) = false := by simpa using hm
      go_wp2_with fail
      go_quiet (fail)
      go_wp2_with fail
      refine hK.out (k + 1) _ _ ⟨va, vc', by omega, ?_, ?_⟩ (by omega)
      · rw [hnew.out]; exact ⟨hII.out.1, below_drewN hII.out.2 _⟩
      · rw [hnew.out]; rfl
  · obtain rfl : k = rn := by omega
    have e : rs.take k = rs := List.take_of_length_le (by omega)
    rw [e] at hI ⊢
    clear hK
    go_wp2_with fail
    exact HQ.out _ _ va vc' hI rfl
end Go.Proofs.YbulkdilgDoor
