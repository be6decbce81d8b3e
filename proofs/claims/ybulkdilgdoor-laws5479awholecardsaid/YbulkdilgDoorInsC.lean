import Derived.Test.YbulkdilgDoorSide
namespace Go.Proofs.YbulkdilgDoor
open Go.RowKit
set_option maxRecDepth 100000
set_option linter.unusedVariables false
set_option linter.unusedSimpArgs false
set_option linter.unnecessarySimpa false

def ky (buy : Bool) (p : Int) : Int := if buy then p else -p
theorem bt_ky (buy : Bool) (p q : Int) : bt buy p q = decide (ky buy q < ky buy p) := by
  cases buy <;> simp [bt, ky]
theorem kx_ky (buy : Bool) (M : Nat → Lv) (x : Nat) : kx buy M x = ky buy (M x).price := rfl
theorem Only.data {M M' : Nat → Lv} {S : List Nat} (h : Only M M' S) (b : Nat) : data (M' b) = data (M b) := by
  have e : Go.Proofs.YbulkdilgDoor.data (core (M' b)) = Go.Proofs.YbulkdilgDoor.data (core (M b)) := by rw [(h b).2]
  exact e
theorem size_set (w : World) (b i : Nat) (x : Value) : (w.setCell ⟨b, i, none⟩ x).heap.size = w.heap.size := by simp [World.setCell]
theorem size_alloc (w : World) (o : Obj) : (w.alloc o).heap.size = w.heap.size + 1 := by rw [← World.alloc_eq]; simp
theorem Srt.of {buy : Bool} {M M' : Nat → Lv} {S : List Nat} (h : Srt buy M S) (e : ∀ b, b ∈ S → (M' b).price = (M b).price) : Srt buy M' S := by
  unfold Srt at *
  refine List.Pairwise.imp_of_mem ?_ h
  intro a b ha hb hab
  rw [kx_ky, kx_ky] at *
  rw [e a ha, e b hb]; exact hab
theorem Lnk.of {M M' : Nat → Lv} {S : List Nat} (h : Lnk M S) (e : ∀ b, b ∈ S → (M' b).worse = (M b).worse ∧ (M' b).better = (M b).better) : Lnk M' S := by
  intro A b B he
  obtain ⟨e1, e2⟩ := e b (by rw [he]; simp)
  rw [e1, e2]; exact h A b B he

def Zi (w3 : World) (l : Nat) (ds : List Nat) (M1 : Nat → Lv) (T : Tr) (xs ys : List Nat) (x : Option Addr) (w' : World) : Prop :=
  ∃ M2 T', x = adr (root T') ∧ Lvs w' (l :: ds) M2 ∧ Kept (l :: ds) w3 w' ∧ Rep M2 T' ∧ Bal T' ∧ io T' = xs ++ l :: ys ∧ Only M1 M2 (l :: io T)

def Ins (w : World) (sb : Nat) (buy : Bool) (en : Option Addr) (ds : List Nat) (M : Nat → Lv) (xs ys : List Nat) (p : Int) (w' : World) : Prop :=
  ∃ M' T', Side w' sb buy en (w.heap.size :: ds) M' T' ∧ io T' = xs ++ w.heap.size :: ys ∧ data (M' w.heap.size) = (p, 0, 0, 0, 0, 0) ∧ (∀ b, b ∈ ds → data (M' b) = data (M b)) ∧ Grew (sb :: ds) w w' ∧ w'.heap.size = w.heap.size + 1

theorem setRoot {w : World} {sb : Nat} {buy : Bool} {a b : Option Nat} {en : Option Addr} (h : w.heap[sb]? = some (.cells (sideCells buy a b en) 36 (0, 0))) (c : Option Nat) :
    (w.setCell ⟨sb, 1, none⟩ (.pointer (adr c))).heap[sb]? = some (.cells (sideCells buy c b en) 36 (0, 0)) := by
  simp [World.setCell, Array.getElem?_modify, h, sideCells]
theorem setBest {w : World} {sb : Nat} {buy : Bool} {a b : Option Nat} {en : Option Addr} (h : w.heap[sb]? = some (.cells (sideCells buy a b en) 36 (0, 0))) (c : Option Nat) :
    (w.setCell ⟨sb, 2, none⟩ (.pointer (adr c))).heap[sb]? = some (.cells (sideCells buy a c en) 36 (0, 0)) := by
  simp [World.setCell, Array.getElem?_modify, h, sideCells]

theorem ins_fin {w w3 : World} {sb : Nat} {buy : Bool} {en : Option Addr} {ds : List Nat} {M : Nat → Lv} {T : Tr} (h : Side w sb buy en ds M T) {l : Nat} (hl : l = w.heap.size) {xs ys : List Nat} (hio : io T = xs ++ ys) {p : Int}
    (hx : ∀ x, x ∈ xs → bt buy p (M x).price = true) (hy : ∀ y, y ∈ ys → bt buy (M y).price p = true) (hlen : (io T).length ≤ 4199)
    (hL : Lvs w3 (l :: ds) (relink M l (lv0 p ys.head? xs.getLast?) xs ys))
    (hB : w3.heap[sb]? = some (.cells (sideCells buy (root T) (xs ++ l :: ys).getLast? en) 36 (0, 0)))
    (hG : Grew (sb :: ds) w w3) (hsz : w3.heap.size = w.heap.size + 1) :
    Hid (Calls Ybad.prog 18 #[.pointer (some ⟨sb, 0, none⟩), .pointer (adr (root T)), .pointer (some ⟨l, 0, none⟩)] w3 fun e w' => ∃ x, e = .returned (.pointer x) ∧ Zi w3 l ds (relink M l (lv0 p ys.head? xs.getLast?) xs ys) T xs ys x w')
    ∧ Hid (∀ x w', Zi w3 l ds (relink M l (lv0 p ys.head? xs.getLast?) xs ys) T xs ys x w' → (∃ v, w'.cell? ⟨sb, 1, none⟩ = some v) ∧ w'.frozen? ⟨sb, 1, none⟩ = false)
    ∧ (∀ x w2, Zi w3 l ds (relink M l (lv0 p ys.head? xs.getLast?) xs ys) T xs ys x w2 → Ins w sb buy en ds M xs ys p (w2.setCell ⟨sb, 1, none⟩ (.pointer x))) := by
  have hln : l ∉ ds := fun hc => by have := (h.lvs l hc).lt; omega
  have hlsb : sb ∉ l :: ds := by
    intro hc
    rcases List.mem_cons.1 hc with e | e
    · have := h.lt; omega
    · exact h.out e
  have hlT : l ∉ io T := fun hc => hln (h.sub l hc)
  have hne : ∀ b, b ∈ io T → b ≠ l := fun b hb e => hlT (e ▸ hb)
  have hnd : (xs ++ ys).Nodup := by rw [← hio]; exact h.srt.nodup
  have hlxy : l ∉ xs ++ ys := by rw [← hio]; exact hlT
  have memx : ∀ b, b ∈ xs → b ∈ io T := fun b hb => by rw [hio]; simp [hb]
  have memy : ∀ b, b ∈ ys → b ∈ io T := fun b hb => by rw [hio]; simp [hb]
  generalize hM1 : relink M l (lv0 p ys.head? xs.getLast?) xs ys = M1 at *
  have M1l : M1 l = lv0 p ys.head? xs.getLast? := by rw [← hM1]; exact relink_l _ _ _ _ _
  have M1o : ∀ b, b ≠ l → M1 b = { M b with worse := if ys.head? = some b then some l else (M b).worse, better := if xs.getLast? = some b then some l else (M b).better } := fun b hb => by rw [← hM1]; exact relink_o _ _ _ _ _ _ hb
  have M1p : ∀ b, b ≠ l → (M1 b).price = (M b).price := fun b hb => by rw [M1o b hb]
  have M1d : ∀ b, b ≠ l → data (M1 b) = data (M b) := fun b hb => by rw [M1o b hb]; rfl
  have lnk1 : Lnk M1 (xs ++ l :: ys) := by
    rw [← hM1]
    exact relink_lnk (by rw [← hio]; exact h.lnk) hlxy hnd rfl rfl
  have rep1 : Rep M1 T := h.rep.of (fun b hb => by rw [M1o b (hne b hb)]; exact ⟨rfl, rfl, rfl⟩)
  have srt1 : Srt buy M1 (xs ++ l :: ys) := by
    have s := h.srt
    rw [hio] at s
    have s' : Srt buy M1 (xs ++ ys) := s.of (fun b hb => M1p b (fun e => hlxy (e ▸ hb)))
    unfold Srt at s' ⊢
    rw [List.pairwise_append] at s' ⊢
    obtain ⟨s1, s2, s3⟩ := s'
    have kl : kx buy M1 l = ky buy p := by rw [kx_ky, M1l]; rfl
    refine ⟨s1, List.pairwise_cons.2 ⟨?_, s2⟩, ?_⟩
    · intro b hb
      have g := hy b hb
      rw [bt_ky, decide_eq_true_iff] at g
      rw [kl, kx_ky, M1p b (hne b (memy b hb))]; exact g
    · intro a ha b hb
      rcases List.mem_cons.1 hb with rfl | hb
      · have g := hx a ha
        rw [bt_ky, decide_eq_true_iff] at g
        rw [kl, kx_ky, M1p a (hne a (memx a ha))]; exact g
      · exact s3 a ha b hb
  have cb : w3.cell? ⟨sb, 0, none⟩ = some (.bool buy) := by simp [World.cell?, hB, sideCells]
  refine ⟨?_, ?_, ?_⟩
  · refine hid ?_
    refine (attach_c buy sb l (l :: ds) hlsb (by simp) T w3 M1 xs ys hL cb rep1 h.bal (fun b hb => by simp [h.sub b hb]) (List.nodup_cons.2 ⟨hlT, h.srt.nodup⟩) (by rw [M1l]; rfl) (by rw [M1l]; rfl) (by rw [M1l]; rfl) (by omega) hio ?_ ?_).mono ?_
    · intro x hx'
      rw [M1l, M1p x (hne x (memx x hx'))]; exact hx x hx'
    · intro y hy'
      have g := hy y hy'
      rw [M1l, M1p y (hne y (memy y hy'))]
      rw [bt_ky, decide_eq_true_iff] at g
      show bt buy p _ = false
      rw [bt_ky]; simp; omega
    · rintro e w' ⟨y, he, M', T', g1, g2, g3, g4, g5, g6, _, _, g7⟩
      exact ⟨y, he, M', T', g1, g2, g3, g4, g5, g6, g7⟩
  · refine hid ?_
    rintro x w' ⟨M2, T', g1, g2, g3, g4, g5, g6, g7⟩
    have hb := (g3.block sb hlsb).trans hB
    exact ⟨⟨.pointer (adr (root T)), by simp [World.cell?, hb, sideCells]⟩, by simp [World.frozen?, hb]⟩
  · rintro x w' ⟨M2, T', rfl, g2, g3, g4, g5, g6, g7⟩
    have hb := (g3.block sb hlsb).trans hB
    refine ⟨M2, T', ?_, ?_, ?_, ?_, ?_, ?_⟩
    · rw [← hl]
      refine ⟨?_, ?_, hlsb, g4, g5, ?_, ?_, ?_⟩
      · rw [g6]; exact setRoot hb (root T')
      · intro b hb'
        exact (g2 b hb').of (Below.heap_setCell _ _ _ _ (fun e => hlsb (by have e' : b = sb := e; rw [← e']; exact hb')))
      · intro b hb'
        rw [g6] at hb'
        simp only [List.mem_append, List.mem_cons] at hb'
        rcases hb' with e | e | e
        · exact List.mem_cons_of_mem _ (h.sub b (memx b e))
        · rw [e]; simp
        · exact List.mem_cons_of_mem _ (h.sub b (memy b e))
      · rw [g6]; exact srt1.of (fun b _ => g7.price b)
      · rw [g6]; exact lnk1.of (fun b _ => ⟨g7.worse b, g7.better b⟩)
    · rw [← hl]; exact g6
    · rw [← hl, g7.data, M1l]; rfl
    · intro b hb'
      rw [g7.data, M1d b (fun e => hln (e ▸ hb'))]
    · refine Grew.set ?_ (by simp) _ _
      refine hG.trans g3.grew ?_
      intro c hc hlt
      rcases List.mem_cons.1 hc with e | e
      · omega
      · simp [e]
    · rw [size_set, g3.size, hsz]

theorem relinked {w' : World} {l : Nat} (hl : w'.heap.size = l) {ds : List Nat} {M : Nat → Lv} {v : Lv} {xs ys : List Nat} (hlt : ∀ b, b ∈ ds → b < l)
    (h : ∀ b, b ∈ ds → Lev w' b { M b with worse := if ys.head? = some b then some l else (M b).worse, better := if xs.getLast? = some b then some l else (M b).better }) :
    Lvs (w'.alloc (.cells (cells v) 56)) (l :: ds) (relink M l v xs ys) := by
  intro b hb
  by_cases e : b = l
  · subst e
    rw [relink_l]
    unfold Lev
    rw [← World.alloc_eq]
    simp [← hl]
  · rw [relink_o _ _ _ _ _ _ e]
    have hb' : b ∈ ds := by simpa [e] using hb
    exact (h b hb').of (Below.heap_alloc _ _ _ (by have := hlt b hb'; omega))

theorem insert_c {w : World} {sb : Nat} {buy : Bool} {en : Option Addr} {ds : List Nat} {M : Nat → Lv} {T : Tr} (h : Side w sb buy en ds M T) {xs ys : List Nat} (hio : io T = xs ++ ys) {p : Int}
    (hx : ∀ x, x ∈ xs → bt buy p (M x).price = true) (hy : ∀ y, y ∈ ys → bt buy (M y).price p = true) (hlen : (io T).length ≤ 4199) :
    Calls Ybad.prog 9 #[.pointer (some ⟨sb, 0, none⟩), .int .i64 p, .pointer (adr ys.head?)] w fun e w' => e = .returned (.pointer (some ⟨w.heap.size, 0, none⟩)) ∧ Ins w sb buy en ds M xs ys p w' := by
  have hlt := h.lt
  have dlt : ∀ b, b ∈ ds → b < w.heap.size := fun b hb => (h.lvs b hb).lt
  have dne : ∀ b, b ∈ ds → b ≠ sb := fun b hb e => h.out (e ▸ hb)
  have inx : ∀ b, b ∈ xs → b ∈ ds := fun b hb => h.sub b (by rw [hio]; simp [hb])
  have iny : ∀ b, b ∈ ys → b ∈ ds := fun b hb => h.sub b (by rw [hio]; simp [hb])
  have c1 : w.cell? ⟨sb, 1, none⟩ = some (.pointer (adr (root T))) := h.cell 1 _ rfl
  have c2 : w.cell? ⟨sb, 2, none⟩ = some (.pointer (adr (io T).getLast?)) := h.cell 2 _ rfl
  have hnd : (xs ++ ys).Nodup := by rw [← hio]; exact h.srt.nodup
  have hlk := h.lnk
  have hbl := h.blk
  have eal : ∀ (w' : World) (o : Obj), w'.heap.size = w.heap.size → (w'.alloc o).heap[sb]? = w'.heap[sb]? := fun w' o e => Below.heap_alloc _ _ _ (by omega)
  rw [hio] at c2 hlk hbl
  cases ys with
  | nil =>
    rcases List.eq_nil_or_concat xs with rfl | ⟨xs', x, rfl⟩
    · have q := ins_fin (w3 := (w.setCell ⟨sb, 2, none⟩ (.pointer (some ⟨w.heap.size, 0, none⟩))).alloc (.cells (cells (lv0 p none none)) 56)) h rfl hio hx hy hlen
        (relinked (size_set ..) dlt (fun b hb => by
          rw [if_neg (show ¬ (([] : List Nat).head? = some b) from fun he => by cases he), if_neg (show ¬ (([] : List Nat).getLast? = some b) from fun he => by cases he)]
          exact (h.lvs b hb).of (Below.heap_setCell _ _ _ _ (dne b hb))))
        (by rw [eal _ _ (size_set ..)]; exact setBest hbl (some w.heap.size))
        (((Grew.refl _ w).set (by simp) _ _).alloc _) (by rw [size_alloc, size_set])
      refine (insert_nn sb p (adr (root T)) w _ hlt c1 c2 (h.free 2) q.1 q.2.1).mono ?_
      rintro e w' ⟨rfl, z, w2, hz, rfl⟩
      exact ⟨rfl, q.2.2 _ _ hz⟩
    · have exl : (xs' ++ [x]).getLast? = some x := by simp
      have exl' : (xs'.concat x).getLast? = some x := by simp
      have hxd : x ∈ ds := inx x (by simp)
      have c2' : w.cell? ⟨sb, 2, none⟩ = some (.pointer (some ⟨x, 0, none⟩)) := by rw [c2]; simp
      have hL1 := h.lvs x hxd
      have q := ins_fin (w3 := ((w.setCell ⟨sb, 2, none⟩ (.pointer (some ⟨w.heap.size, 0, none⟩))).setCell ⟨x, 7, none⟩ (.pointer (some ⟨w.heap.size, 0, none⟩))).alloc (.cells (cells (lv0 p none (some x))) 56)) h rfl hio hx hy hlen
        (by
          rw [exl']
          refine relinked (by rw [size_set, size_set]) dlt (fun b hb => ?_)
          rw [if_neg (show ¬ (([] : List Nat).head? = some b) from fun he => by cases he)]
          have hs : Lev (w.setCell ⟨sb, 2, none⟩ (.pointer (some ⟨w.heap.size, 0, none⟩))) b (M b) := (h.lvs b hb).of (Below.heap_setCell _ _ _ _ (dne b hb))
          by_cases e : x = b
          · subst e
            rw [if_pos exl']
            exact hs.set 7 _ rfl
          · rw [if_neg (show ¬ ((xs'.concat x).getLast? = some b) from fun he => e (Option.some.inj (exl'.symm.trans he)))]
            exact hs.of (Below.heap_setCell _ _ _ _ (fun e' => e e'.symm)))
        (by
          rw [eal _ _ (by rw [size_set, size_set]), Below.heap_setCell _ _ _ _ (fun e' => dne x hxd e'.symm)]
          have := setBest hbl (some w.heap.size)
          rw [show (xs'.concat x ++ [w.heap.size]).getLast? = some w.heap.size by simp]
          exact this)
        ((((Grew.refl _ w).set (by simp) _ _).set (by simp [hxd]) _ _).alloc _) (by rw [size_alloc, size_set, size_set])
      refine (insert_nx sb x p (adr (root T)) w _ hlt c1 c2' (h.free 2) (dlt x hxd) (dne x hxd) ⟨_, hL1.better⟩ (hL1.free 7) q.1 q.2.1).mono ?_
      rintro e w' ⟨rfl, z, w2, hz, rfl⟩
      exact ⟨rfl, q.2.2 _ _ hz⟩
  | cons y ys' =>
    have hyd : y ∈ ds := iny y (by simp)
    have hLy := h.lvs y hyd
    obtain ⟨lk1, _⟩ := hlk xs y ys' rfl
    have cy := hLy.worse
    rw [lk1] at cy
    rcases List.eq_nil_or_concat xs with rfl | ⟨xs', x, rfl⟩
    · have q := ins_fin (w3 := (w.setCell ⟨y, 6, none⟩ (.pointer (some ⟨w.heap.size, 0, none⟩))).alloc (.cells (cells (lv0 p (some y) none)) 56)) h rfl hio hx hy hlen
        (relinked (size_set ..) dlt (fun b hb => by
          rw [if_neg (show ¬ (([] : List Nat).getLast? = some b) from fun he => by cases he)]
          by_cases e : y = b
          · subst e
            rw [if_pos (show (y :: ys').head? = some y from rfl)]
            exact (h.lvs y hb).set 6 _ rfl
          · rw [if_neg (show ¬ ((y :: ys').head? = some b) from fun he => e (Option.some.inj he))]
            exact (h.lvs b hb).of (Below.heap_setCell _ _ _ _ (fun e' => e e'.symm))))
        (by
          rw [eal _ _ (size_set ..), Below.heap_setCell _ _ _ _ (fun e' => dne y hyd e'.symm)]
          rw [hbl]; simp [List.getLast?_cons_cons])
        (((Grew.refl _ w).set (by simp [hyd]) _ _).alloc _) (by rw [size_alloc, size_set])
      refine (insert_yn sb y p (adr (root T)) w _ hlt c1 (dlt y hyd) (dne y hyd) cy (hLy.free 6) q.1 q.2.1).mono ?_
      rintro e w' ⟨rfl, z, w2, hz, rfl⟩
      exact ⟨rfl, q.2.2 _ _ hz⟩
    · have exl : (xs' ++ [x]).getLast? = some x := by simp
      have exl' : (xs'.concat x).getLast? = some x := by simp
      have hxd : x ∈ ds := inx x (by simp)
      have hL1 := h.lvs x hxd
      have hxy : x ≠ y := by
        intro e
        exact (List.nodup_append.1 hnd).2.2 x (by simp) y (by simp) e
      rw [List.concat_eq_append, exl] at cy
      have q := ins_fin (w3 := ((w.setCell ⟨y, 6, none⟩ (.pointer (some ⟨w.heap.size, 0, none⟩))).setCell ⟨x, 7, none⟩ (.pointer (some ⟨w.heap.size, 0, none⟩))).alloc (.cells (cells (lv0 p (some y) (some x))) 56)) h rfl hio hx hy hlen
        (by
          rw [exl']
          refine relinked (by rw [size_set, size_set]) dlt (fun b hb => ?_)
          by_cases e : x = b
          · subst e
            rw [if_pos exl', if_neg (show ¬ ((y :: ys').head? = some x) from fun he => hxy (Option.some.inj he).symm)]
            exact Lev.set ((h.lvs x hb).of (Below.heap_setCell _ _ _ _ hxy)) 7 _ rfl
          · rw [if_neg (show ¬ ((xs'.concat x).getLast? = some b) from fun he => e (Option.some.inj (exl'.symm.trans he)))]
            refine Lev.of ?_ (Below.heap_setCell _ _ _ _ (fun e' => e e'.symm))
            by_cases e2 : y = b
            · subst e2
              rw [if_pos (show (y :: ys').head? = some y from rfl)]
              exact (h.lvs y hb).set 6 _ rfl
            · rw [if_neg (show ¬ ((y :: ys').head? = some b) from fun he => e2 (Option.some.inj he))]
              exact (h.lvs b hb).of (Below.heap_setCell _ _ _ _ (fun e' => e2 e'.symm)))
        (by
          rw [eal _ _ (by rw [size_set, size_set]), Below.heap_setCell _ _ _ _ (fun e' => dne x hxd e'.symm), Below.heap_setCell _ _ _ _ (fun e' => dne y hyd e'.symm)]
          rw [hbl]; simp [List.getLast?_cons_cons])
        ((((Grew.refl _ w).set (by simp [hyd]) _ _).set (by simp [hxd]) _ _).alloc _) (by rw [size_alloc, size_set, size_set])
      refine (insert_yx sb y x p (adr (root T)) w _ hlt c1 (dlt y hyd) (dne y hyd) cy (hLy.free 6) (dlt x hxd) (dne x hxd) ⟨_, hL1.better⟩ (hL1.free 7) hxy q.1 q.2.1).mono ?_
      rintro e w' ⟨rfl, z, w2, hz, rfl⟩
      exact ⟨rfl, q.2.2 _ _ hz⟩
end Go.Proofs.YbulkdilgDoor
