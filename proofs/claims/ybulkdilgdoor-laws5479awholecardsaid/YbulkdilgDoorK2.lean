import Derived.Test.YbulkdilgDoorCon
namespace Go.Proofs.YbulkdilgDoor
open Go.RowKit
set_option maxRecDepth 100000
set_option linter.unusedVariables false
set_option linter.unusedSimpArgs false
set_option linter.unnecessarySimpa false

/-- The distinct prices, in order of first sight. -/
def dstep (P : Nat → Int) (acc : List Int) (i : Nat) : List Int := if P i ∈ acc then acc else acc ++ [P i]
def dst (P : Nat → Int) (rs : List Nat) : List Int := rs.foldl (dstep P) []
theorem dst_succ (P : Nat → Int) (rs : List Nat) (k i : Nat) (h : rs[k]? = some i) : dst P (rs.take (k + 1)) = dstep P (dst P (rs.take k)) i := by
  unfold dst
  have hk : k < rs.length := (List.getElem?_eq_some_iff.1 h).1
  rw [List.take_succ_eq_append_getElem hk, List.foldl_append, show rs[k] = i from (List.getElem?_eq_some_iff.1 h).2]
  rfl
theorem dst_facts (P : Nat → Int) (rs : List Nat) : ∀ k, k ≤ rs.length → (dst P (rs.take k)).Nodup ∧ (dst P (rs.take k)).length ≤ k ∧ ∀ p, p ∈ dst P (rs.take k) ↔ ∃ i, i ∈ rs.take k ∧ P i = p
  | 0, _ => by simp [dst]
  | k + 1, h => by
    have hk : k < rs.length := by omega
    obtain ⟨h1, h2, h3⟩ := dst_facts P rs k (by omega)
    rw [dst_succ P rs k rs[k] (List.getElem?_eq_getElem hk), List.take_succ_eq_append_getElem hk]
    unfold dstep
    split
    · rename_i hm
      refine ⟨h1, by omega, fun p => ?_⟩
      rw [h3 p]
      constructor
      · rintro ⟨i, hi, e⟩
        exact ⟨i, List.mem_append.2 (.inl hi), e⟩
      · rintro ⟨i, hi, e⟩
        rcases List.mem_append.1 hi with hi | hi
        · exact ⟨i, hi, e⟩
        · obtain rfl := List.mem_singleton.1 hi
          rw [← e]; exact (h3 _).1 hm
    · rename_i hm
      refine ⟨?_, by simp; omega, fun p => ?_⟩
      · rw [List.nodup_append]
        exact ⟨h1, by simp, fun a ha b hb e => by
          have hb' := List.mem_singleton.1 hb
          exact hm (by rw [← hb', ← e]; exact ha)⟩
      · rw [List.mem_append, h3 p, List.mem_singleton]
        constructor
        · rintro (⟨i, hi, e⟩ | e)
          · exact ⟨i, List.mem_append.2 (.inl hi), e⟩
          · exact ⟨rs[k], List.mem_append.2 (.inr (List.mem_singleton.2 rfl)), e.symm⟩
        · rintro ⟨i, hi, e⟩
          rcases List.mem_append.1 hi with hi | hi
          · exact .inl ⟨i, hi, e⟩
          · obtain rfl := List.mem_singleton.1 hi
            exact .inr e.symm

set_option maxHeartbeats 4000000 in
theorem chk2 (sb eb : Nat) (buy : Bool) (pb qb lb rb cnt rn pc qc lc rc kb cb lim : Nat) (ds : List Nat) (M : Nat → Lv) (T : Tr) (X : Nat → Nat → Value) (P Q : Nat → Int) (rs : List Nat) (hrn : rs.length = rn) (w w0 : World) (hR : Hid (Rd w sb buy eb kb cb lim pb qb lb rb ds M T X P Q cnt rs)) (h0 : Below w.heap.size w w0) (R : Ending → World → Prop) (Qq : Exit → Act → World → Prop)
    (HQ : Hid (∀ a wr va vc, Ow wr w.heap.size va vc (dst P rs) ∧ Below w.heap.size w wr → a = gB sb eb buy pb qb lb rb cnt rn pc qc lc rc (.slice va (dst P rs).length vc) (.int .i64 rn) (sl a) → Qq (.exit 2) a wr))
    (a : Act) (ha : a = gB sb eb buy pb qb lb rb cnt rn pc qc lc rc (.slice none 0 0) (.int .i64 (0 : Nat)) (sl a)) : Code.wp Ybad.prog ((Ybad.f7.body.bind (findLoop 12)).getD .skip) (QQ R Qq) a w0 := by
  conv => arg 2; whnf
  refine wp_loop_hand (X := Nat) (fun k a wr => ∃ va vc, k ≤ rn ∧ (Ow wr w.heap.size va vc (dst P (rs.take k)) ∧ Below w.heap.size w wr) ∧ a = gB sb eb buy pb qb lb rb cnt rn pc qc lc rc (.slice va (dst P (rs.take k)).length vc) (.int .i64 k) (sl a)) (fun k => rn - k) 0 ⟨none, 0, Nat.zero_le _, ⟨World.ownsRow_nil _ _ _ _, h0⟩, ha⟩ ?_
  clear ha a h0 w0
  rintro k a wr ⟨va, vc, hk, hI, ha⟩ Kc hK
  obtain ⟨U, rfl⟩ : ∃ U, a = gB sb eb buy pb qb lb rb cnt rn pc qc lc rc (.slice va (dst P (rs.take k)).length vc) (.int .i64 k) U := ⟨_, ha⟩
  clear ha
  unfold gB
  have hrl := hR.out.bk.rlen
  have hcle := hR.out.bk.cle
  obtain ⟨_, hdl, _⟩ := dst_facts P rs k (by omega)
  by_cases hlt : k < rn
  · have hb : rs[k]? = some (rs[k]'(by omega)) := List.getElem?_eq_getElem _
    generalize (rs[k]'(by omega)) = i at hb
    have hic := hR.out.bk.bnd i (List.mem_of_getElem? hb)
    have hR2 := hR.out.ofBelow hI.2
    have cr := hR2.cr k i hb
    have cp := hR2.cp i hic
    have hds := hid (dst_succ P rs k i hb)
    have hicc : (i : Int) < (cnt : Int) := by omega
    have hkr : (k : Int) < (rn : Int) := by omega
    generalize dst P (rs.take k) = L at *
    have hII := hid hI
    have C14 := hid (contains_c wr w.heap.size va vc L (P i) hI.1 (by omega))
    have hsz : w.heap.size ≤ wr.heap.size := hI.2.size
    clear HQ hR2 hI hb
    by_cases hm : P i ∈ L
    · have hnew : Hid (dst P (rs.take (k + 1)) = L) := by
        show _ = _
        rw [hds.out]; unfold dstep; rw [if_pos hm]
      have hd : decide (P i ∈ L) = true := by simpa using hm
      rw [hd] at C14
      go_wp2_with (go_at_call 14; refine C14.out.mono ?_; rintro e w' ⟨rfl, rfl⟩)
      refine hK.out (k + 1) _ _ ⟨va, vc, by omega, ?_, ?_⟩ (by omega)
      · rw [hnew.out]; exact hII.out
      · rw [hnew.out]; rfl
    · have hnew : Hid (dst P (rs.take (k + 1)) = L ++ [P i]) := by
        show _ = _
        rw [hds.out]; unfold dstep; rw [if_neg hm]
      have hd : decide (P i ∈ L) = false := by simpa using hm
      rw [hd] at C14
      obtain ⟨i0, hi0, hz0, hz1, hz2⟩ := info_parts info44
      go_wp2_with (first
        | (go_at_call 14; refine C14.out.mono ?_; rintro e w' ⟨rfl, rfl⟩)
        | (at_builtin; refine wpList_append_lies _ rfl (.tmp 134) (.tmp 139) 37 rfl w.heap.size 44 i0 (.int .i64 0) 1 8 Ybad.underlying37 hi0 hz0 hz1 hz2 rfl (by decide) (.slice va L.length vc) L.length (am L) rfl (World.ownsRow.alloc hII.out.1 _) ⟨_, 0, none⟩ 1 1 [.int .i64 (P i)] rfl rfl (cell_one_new _ _ _) (by simp [Value.oneCell']) (by decide) (by unfold maxLen; omega) (by omega) (by simp; omega) _ rfl ?_))
      intro g cap w2 hown hgrow hat hlg
      have hb2 : Below w.heap.size w w2 := (hII.out.2.alloc hsz _).trans (below_grown hgrow (fun k hk => (hII.out.1.lt k hk).1) (by rw [← World.alloc_eq]; simp; omega))
      have hF := hid (And.intro hown hb2)
      clear hown hgrow hat hb2 hi0 hz0 hz1 hz2 C14 cr cp
      go_wp2
      have hlen : (dst P (rs.take (k + 1))).length = L.length + 1 := by rw [hnew.out]; simp
      refine hK.out (k + 1) _ _ ⟨some ⟨g, 0, none⟩, cap, by omega, ⟨?_, hF.out.2⟩, ?_⟩ (by omega)
      · unfold Ow
        rw [hlen, hnew.out, am_app]; exact hF.out.1
      · rw [hlen]; rfl
  · obtain rfl : k = rn := by omega
    have e : rs.take k = rs := List.take_of_length_le (by omega)
    rw [e] at hI ⊢
    clear hK
    go_wp2_with fail
    exact HQ.out _ _ va vc hI rfl
end Go.Proofs.YbulkdilgDoor
