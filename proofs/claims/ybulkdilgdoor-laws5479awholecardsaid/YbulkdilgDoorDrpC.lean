import Derived.Test.YbulkdilgDoorInsC
namespace Go.Proofs.YbulkdilgDoor
open Go.RowKit
set_option maxRecDepth 100000
set_option linter.unusedVariables false
set_option linter.unusedSimpArgs false
set_option linter.unnecessarySimpa false

/-- The map behind a level's unlinking. -/
def unlink (M : Nat → Lv) (xs ys : List Nat) : Nat → Lv := fun b => { M b with worse := if ys.head? = some b then xs.getLast? else (M b).worse, better := if xs.getLast? = some b then ys.head? else (M b).better }

theorem unlink_lnk {M : Nat → Lv} {l : Nat} {xs ys : List Nat} (h : Lnk M (xs ++ l :: ys)) (hn : (xs ++ ys).Nodup) : Lnk (unlink M xs ys) (xs ++ ys) := by
  intro A b B e
  have hX := (List.nodup_append.1 hn).2.2
  by_cases hb : b ∈ ys
  · have hbx : b ∉ xs := fun hc => hX b hc b hb rfl
    obtain ⟨ys', e1, e2⟩ := split_left e.symm hbx
    obtain ⟨g1, g2⟩ := h (xs ++ l :: ys') b B (by rw [e1]; simp)
    have nb : xs.getLast? ≠ some b := fun hc => hbx (List.mem_of_getLast? hc)
    refine ⟨?_, ?_⟩
    · show (if ys.head? = some b then xs.getLast? else (M b).worse) = _
      cases ys' with
      | nil => rw [if_pos (by rw [e1]; rfl), e2]; simp
      | cons c r =>
        rw [if_neg, g1, e2]
        · simp [List.getLast?_append, List.getLast?_cons_cons]
        · intro hc
          rw [e1] at hc
          simp at hc; subst hc
          have := (List.nodup_append.1 hn).2.1
          rw [e1] at this
          exact (List.nodup_cons.1 this).1 (by simp)
    · show (if xs.getLast? = some b then ys.head? else (M b).better) = _
      rw [if_neg nb]; exact g2
  · obtain ⟨xs', e1, e2⟩ := split_right e.symm hb
    obtain ⟨g1, g2⟩ := h A b (xs' ++ l :: ys) (by rw [e1]; simp)
    have nb : ys.head? ≠ some b := fun hc => hb (List.mem_of_head? hc)
    refine ⟨?_, ?_⟩
    · show (if ys.head? = some b then xs.getLast? else (M b).worse) = _
      rw [if_neg nb]; exact g1
    · show (if xs.getLast? = some b then ys.head? else (M b).better) = _
      cases xs' with
      | nil => rw [if_pos (by rw [e1]; simp), e2]; rfl
      | cons c r =>
        rw [if_neg, g2, e2]
        · simp
        · intro hc
          rw [e1] at hc hn
          have hb2 : b ∈ c :: r := by
            have : (A ++ b :: c :: r).getLast? = (c :: r).getLast? := by rw [show A ++ b :: c :: r = (A ++ [b]) ++ (c :: r) by simp, List.getLast?_append, List.getLast?_cons]; rfl
            rw [this] at hc
            exact List.mem_of_getLast? hc
          have : (b :: c :: r).Nodup := (List.nodup_append.1 (List.nodup_append.1 hn).1).2.1
          exact (List.nodup_cons.1 this).1 hb2

def Zd (w3 : World) (ds : List Nat) (M1 : Nat → Lv) (xs ys : List Nat) (x : Option Addr) (w' : World) : Prop :=
  ∃ M2 T', x = adr (root T') ∧ Lvs w' ds M2 ∧ Kept ds w3 w' ∧ Rep M2 T' ∧ Bal T' ∧ io T' = xs ++ ys ∧ Only M1 M2 (xs ++ ys)

def Drp (w : World) (sb : Nat) (buy : Bool) (en : Option Addr) (ds : List Nat) (M : Nat → Lv) (l : Nat) (xs ys : List Nat) (w' : World) : Prop :=
  ∃ M' T', Side w' sb buy en ds M' T' ∧ io T' = xs ++ ys ∧ M' l = M l ∧ (∀ b, data (M' b) = data (M b)) ∧ Kept (sb :: ds) w w'

theorem drp_fin {w w3 : World} {sb : Nat} {buy : Bool} {en : Option Addr} {ds : List Nat} {M : Nat → Lv} {T : Tr} (h : Side w sb buy en ds M T) {l : Nat} {xs ys : List Nat} (hio : io T = xs ++ l :: ys) (hlen : (io T).length ≤ 4200)
    (hL : Lvs w3 ds (unlink M xs ys))
    (hB : w3.heap[sb]? = some (.cells (sideCells buy (root T) (xs ++ ys).getLast? en) 36 (0, 0)))
    (hG : Kept (sb :: ds) w w3) :
    Hid (∀ n, Calls Ybad.prog 22 #[.pointer (some ⟨sb, 0, none⟩), .pointer (adr (root T)), .pointer (some ⟨l, 0, none⟩)] (w3.drewN n) fun e w' => ∃ x, e = .returned (.pointer x) ∧ Zd w3 ds (unlink M xs ys) xs ys x w')
    ∧ Hid (∀ x w', Zd w3 ds (unlink M xs ys) xs ys x w' → (∃ v, w'.cell? ⟨sb, 1, none⟩ = some v) ∧ w'.frozen? ⟨sb, 1, none⟩ = false)
    ∧ (∀ x w2, Zd w3 ds (unlink M xs ys) xs ys x w2 → Drp w sb buy en ds M l xs ys (w2.setCell ⟨sb, 1, none⟩ (.pointer x))) := by
  have hsub : ∀ b, b ∈ xs ++ ys → b ∈ io T := fun b hb => by
    rw [hio]
    rcases List.mem_append.1 hb with e | e <;> simp [e]
  have hnl : (xs ++ l :: ys).Nodup := by rw [← hio]; exact h.srt.nodup
  have hnd0 : (l :: (xs ++ ys)).Nodup := (List.perm_middle.nodup_iff).1 hnl
  have hnd : (xs ++ ys).Nodup := (List.nodup_cons.1 hnd0).2
  have hlxy : l ∉ xs ++ ys := (List.nodup_cons.1 hnd0).1
  have hln : l ∈ ds := h.sub l (by rw [hio]; simp)
  have lk0 := h.lnk
  rw [hio] at lk0
  have lnk1 := unlink_lnk lk0 hnd
  have M1l : unlink M xs ys l = M l := by
    unfold unlink
    rw [if_neg (fun hc => hlxy (List.mem_append.2 (.inr (List.mem_of_head? hc)))), if_neg (fun hc => hlxy (List.mem_append.2 (.inl (List.mem_of_getLast? hc))))]
  have lkl := lk0 xs l ys rfl
  generalize hM1 : unlink M xs ys = M1 at *
  have M1p : ∀ b, (M1 b).price = (M b).price := fun b => by rw [← hM1]; rfl
  have M1d : ∀ b, data (M1 b) = data (M b) := fun b => by rw [← hM1]; rfl
  have rep1 : Rep M1 T := h.rep.of (fun b hb => by rw [← hM1]; exact ⟨rfl, rfl, rfl⟩)
  have srt0 : Srt buy M1 (io T) := h.srt.of (fun b _ => M1p b)
  have srt1 : Srt buy M1 (xs ++ ys) := by
    rw [hio] at srt0
    unfold Srt at srt0 ⊢
    exact srt0.sublist (List.Sublist.append_left (List.sublist_cons_self _ _) _)
  refine ⟨?_, ?_, ?_⟩
  · refine hid ?_
    intro n
    have cb : (w3.drewN n).cell? ⟨sb, 0, none⟩ = some (.bool buy) := by
      show w3.cell? _ = _
      simp [World.cell?, hB, sideCells]
    refine (detach_c buy sb ds h.out T (w3.drewN n) M1 l xs ys (hL.drewN n) cb rep1 h.bal h.sub srt0 hlen hio ?_).mono ?_
    · intro y ys' e1 e2
      rw [M1l, lkl.2, e1]; rfl
    · rintro e w' ⟨y, he, M', T', g1, g2, g3, g4, g5, g6, _, _, g7⟩
      refine ⟨y, he, M', T', g1, g2, ?_, g4, g5, g6, g7⟩
      exact ((Kept.refl ds w3).drewN n).trans g3
  · refine hid ?_
    rintro x w' ⟨M2, T', g1, g2, g3, g4, g5, g6, g7⟩
    have hb := (g3.block sb h.out).trans hB
    exact ⟨⟨.pointer (adr (root T)), by simp [World.cell?, hb, sideCells]⟩, by simp [World.frozen?, hb]⟩
  · rintro x w' ⟨M2, T', rfl, g2, g3, g4, g5, g6, g7⟩
    have hb := (g3.block sb h.out).trans hB
    refine ⟨M2, T', ?_, g6, ?_, ?_, ?_⟩
    · refine ⟨?_, ?_, h.out, g4, g5, ?_, ?_, ?_⟩
      · rw [g6]; exact setRoot hb (root T')
      · intro b hb'
        exact (g2 b hb').of (Below.heap_setCell _ _ _ _ (fun e => h.out (by have e' : b = sb := e; rw [← e']; exact hb')))
      · intro b hb'
        rw [g6] at hb'
        exact h.sub b (hsub b hb')
      · rw [g6]; exact srt1.of (fun b _ => g7.price b)
      · rw [g6]; exact lnk1.of (fun b _ => ⟨g7.worse b, g7.better b⟩)
    · rw [(g7 l).1 hlxy, M1l]
    · intro b
      rw [g7.data, M1d b]
    · exact (hG.trans (g3.mono (fun x hx => by simp [hx]))).set (by simp) _ _

theorem drop_c {w : World} {sb : Nat} {buy : Bool} {en : Option Addr} {ds : List Nat} {M : Nat → Lv} {T : Tr} (h : Side w sb buy en ds M T) {l : Nat} {xs ys : List Nat} (hio : io T = xs ++ l :: ys) (hlen : (io T).length ≤ 4200) :
    Calls Ybad.prog 13 #[.pointer (some ⟨sb, 0, none⟩), .pointer (some ⟨l, 0, none⟩)] w fun e w' => e = .returned (.tuple #[]) ∧ Drp w sb buy en ds M l xs ys w' := by
  have dne : ∀ b, b ∈ ds → b ≠ sb := fun b hb e => h.out (e ▸ hb)
  have inx : ∀ b, b ∈ xs → b ∈ ds := fun b hb => h.sub b (by rw [hio]; simp [hb])
  have iny : ∀ b, b ∈ ys → b ∈ ds := fun b hb => h.sub b (by rw [hio]; simp [hb])
  have hld : l ∈ ds := h.sub l (by rw [hio]; simp)
  have c1 : w.cell? ⟨sb, 1, none⟩ = some (.pointer (adr (root T))) := h.cell 1 _ rfl
  have c2 : w.cell? ⟨sb, 2, none⟩ = some (.pointer (adr (io T).getLast?)) := h.cell 2 _ rfl
  have hnl : (xs ++ l :: ys).Nodup := by rw [← hio]; exact h.srt.nodup
  have hnd0 : (l :: (xs ++ ys)).Nodup := (List.perm_middle.nodup_iff).1 hnl
  have hnd : (xs ++ ys).Nodup := (List.nodup_cons.1 hnd0).2
  have hlxy : l ∉ xs ++ ys := (List.nodup_cons.1 hnd0).1
  have hlk := h.lnk
  have hbl := h.blk
  rw [hio] at hlk hbl
  obtain ⟨lk1, lk2⟩ := hlk xs l ys rfl
  have hLl := h.lvs l hld
  have c7 := hLl.better
  have c6 := hLl.worse
  rw [lk2] at c7
  rw [lk1] at c6
  cases ys with
  | nil =>
    rcases List.eq_nil_or_concat xs with rfl | ⟨xs', x, rfl⟩
    · have q := drp_fin (w3 := w.setCell ⟨sb, 2, none⟩ (.pointer none)) h hio hlen
        (fun b hb => by
          unfold unlink
          rw [if_neg (show ¬ (([] : List Nat).head? = some b) from fun he => by cases he), if_neg (show ¬ (([] : List Nat).getLast? = some b) from fun he => by cases he)]
          exact (h.lvs b hb).of (Below.heap_setCell _ _ _ _ (dne b hb)))
        (setBest hbl none) ((Kept.refl _ w).set (by simp) _ _)
      refine (drop_nn sb l (adr (root T)) w _ (dne l hld) c1 c7 c6 ⟨_, c2⟩ (h.free 2) q.1 q.2.1).mono ?_
      rintro e w' ⟨rfl, z, w2, hz, rfl⟩
      exact ⟨rfl, q.2.2 _ _ hz⟩
    · have exl : (xs' ++ [x]).getLast? = some x := by simp
      have exl' : (xs'.concat x).getLast? = some x := by simp
      have hxd : x ∈ ds := inx x (by simp)
      have hL1 := h.lvs x hxd
      have hxl : x ≠ l := fun e => hlxy (by simp [← e])
      rw [List.concat_eq_append, exl] at c6
      have q := drp_fin (w3 := (w.setCell ⟨sb, 2, none⟩ (.pointer (some ⟨x, 0, none⟩))).setCell ⟨x, 7, none⟩ (.pointer none)) h hio hlen
        (fun b hb => by
          unfold unlink
          rw [if_neg (show ¬ (([] : List Nat).head? = some b) from fun he => by cases he)]
          have hs : Lev (w.setCell ⟨sb, 2, none⟩ (.pointer (some ⟨x, 0, none⟩))) b (M b) := (h.lvs b hb).of (Below.heap_setCell _ _ _ _ (dne b hb))
          by_cases e : x = b
          · subst e
            rw [if_pos exl']
            exact hs.set 7 _ rfl
          · rw [if_neg (show ¬ ((xs'.concat x).getLast? = some b) from fun he => e (Option.some.inj (exl'.symm.trans he)))]
            exact hs.of (Below.heap_setCell _ _ _ _ (fun e' => e e'.symm)))
        (by
          rw [Below.heap_setCell _ _ _ _ (fun e' => dne x hxd e'.symm)]
          have := setBest hbl (some x)
          rw [List.append_nil, List.concat_eq_append, exl]
          exact this)
        (((Kept.refl _ w).set (by simp) _ _).set (by simp [hxd]) _ _)
      refine (drop_nx sb l x (adr (root T)) w _ (dne l hld) c1 c7 c6 ⟨_, c2⟩ (h.free 2) hxl (dne x hxd) ⟨_, hL1.better⟩ (hL1.free 7) q.1 q.2.1).mono ?_
      rintro e w' ⟨rfl, z, w2, hz, rfl⟩
      exact ⟨rfl, q.2.2 _ _ hz⟩
  | cons y ys' =>
    have hyd : y ∈ ds := iny y (by simp)
    have hLy := h.lvs y hyd
    have hyl : y ≠ l := fun e => hlxy (by simp [← e])
    rcases List.eq_nil_or_concat xs with rfl | ⟨xs', x, rfl⟩
    · have q := drp_fin (w3 := w.setCell ⟨y, 6, none⟩ (.pointer none)) h hio hlen
        (fun b hb => by
          unfold unlink
          rw [if_neg (show ¬ (([] : List Nat).getLast? = some b) from fun he => by cases he)]
          by_cases e : y = b
          · subst e
            rw [if_pos (show (y :: ys').head? = some y from rfl)]
            exact (h.lvs y hb).set 6 _ rfl
          · rw [if_neg (show ¬ ((y :: ys').head? = some b) from fun he => e (Option.some.inj he))]
            exact (h.lvs b hb).of (Below.heap_setCell _ _ _ _ (fun e' => e e'.symm)))
        (by
          rw [Below.heap_setCell _ _ _ _ (fun e' => dne y hyd e'.symm)]
          rw [hbl]; simp [List.getLast?_cons_cons])
        ((Kept.refl _ w).set (by simp [hyd]) _ _)
      refine (drop_yn sb l y (adr (root T)) w _ (dne l hld) c1 c7 c6 hyl (dne y hyd) ⟨_, hLy.worse⟩ (hLy.free 6) q.1 q.2.1).mono ?_
      rintro e w' ⟨rfl, z, w2, hz, rfl⟩
      exact ⟨rfl, q.2.2 _ _ hz⟩
    · have exl : (xs' ++ [x]).getLast? = some x := by simp
      have exl' : (xs'.concat x).getLast? = some x := by simp
      have hxd : x ∈ ds := inx x (by simp)
      have hL1 := h.lvs x hxd
      have hxl : x ≠ l := fun e => hlxy (by simp [← e])
      have hxy : x ≠ y := by
        intro e
        exact (List.nodup_append.1 hnd).2.2 x (by simp) y (by simp) e
      rw [List.concat_eq_append, exl] at c6
      have q := drp_fin (w3 := (w.setCell ⟨y, 6, none⟩ (.pointer (some ⟨x, 0, none⟩))).setCell ⟨x, 7, none⟩ (.pointer (some ⟨y, 0, none⟩))) h hio hlen
        (fun b hb => by
          unfold unlink
          by_cases e : x = b
          · subst e
            rw [if_pos exl', if_neg (show ¬ ((y :: ys').head? = some x) from fun he => hxy (Option.some.inj he).symm)]
            exact Lev.set ((h.lvs x hb).of (Below.heap_setCell _ _ _ _ hxy)) 7 _ rfl
          · rw [if_neg (show ¬ ((xs'.concat x).getLast? = some b) from fun he => e (Option.some.inj (exl'.symm.trans he)))]
            refine Lev.of ?_ (Below.heap_setCell _ _ _ _ (fun e' => e e'.symm))
            by_cases e2 : y = b
            · subst e2
              rw [if_pos (show (y :: ys').head? = some y from rfl), exl']
              exact (h.lvs y hb).set 6 _ rfl
            · rw [if_neg (show ¬ ((y :: ys').head? = some b) from fun he => e2 (Option.some.inj he))]
              exact (h.lvs b hb).of (Below.heap_setCell _ _ _ _ (fun e' => e2 e'.symm)))
        (by
          rw [Below.heap_setCell _ _ _ _ (fun e' => dne x hxd e'.symm), Below.heap_setCell _ _ _ _ (fun e' => dne y hyd e'.symm)]
          rw [hbl]; simp [List.getLast?_cons_cons])
        (((Kept.refl _ w).set (by simp [hyd]) _ _).set (by simp [hxd]) _ _)
      refine (drop_yx sb l y x (adr (root T)) w _ (dne l hld) c1 c7 c6 hyl (dne y hyd) ⟨_, hLy.worse⟩ (hLy.free 6) hxl (dne x hxd) ⟨_, hL1.better⟩ (hL1.free 7) hxy q.1 q.2.1).mono ?_
      rintro e w' ⟨rfl, z, w2, hz, rfl⟩
      exact ⟨rfl, q.2.2 _ _ hz⟩
end Go.Proofs.YbulkdilgDoor
