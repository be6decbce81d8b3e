/-
  THE LEVELS' TREE, PLAINLY: what a map from blocks to level records holds as a binary tree; rotations; rebalancing; the AVL facts. No Go text and no world stands here.
-/
import Derived.Deep.Trees
namespace Go.Proofs.YbulkdilgDoor
open Go.Deep
set_option linter.unusedVariables false
set_option linter.unusedSimpArgs false

/-- A level's fields; a pointer is the block of the level that it leads to. -/
structure Lv where
  price : Int
  hi : Int
  lo : Int
  orders : Int
  head : Int
  tail : Int
  worse : Option Nat
  better : Option Nat
  left : Option Nat
  right : Option Nat
  height : Int

abbrev Tr : Type := BT Unit
def nd (b : Nat) (l r : Tr) : Tr := .node b 0 () l r

def upd {α : Type} (f : Nat → α) (j : Nat) (x : α) : Nat → α := fun i => if i = j then x else f i
theorem upd_same {α : Type} (f : Nat → α) (j : Nat) (x : α) : upd f j x j = x := by simp [upd]
theorem upd_other {α : Type} (f : Nat → α) (j : Nat) (x : α) (i : Nat) (h : i ≠ j) : upd f j x i = f i := by simp [upd, h]

/-- The blocks in order, worst first. -/
def io : Tr → List Nat
  | .nil => []
  | .node b _ _ l r => io l ++ b :: io r
def ht : Tr → Nat
  | .nil => 0
  | .node _ _ _ l r => 1 + max (ht l) (ht r)
def root : Tr → Option Nat
  | .nil => none
  | .node b _ _ _ _ => some b
def Bal : Tr → Prop
  | .nil => True
  | .node _ _ _ l r => Bal l ∧ Bal r ∧ ht l ≤ ht r + 1 ∧ ht r ≤ ht l + 1
/-- The map holds this tree: pointers and heights. -/
def Rep (M : Nat → Lv) : Tr → Prop
  | .nil => True
  | .node b _ _ l r => (M b).left = root l ∧ (M b).right = root r ∧ (M b).height = (1 + max (ht l) (ht r) : Nat) ∧ Rep M l ∧ Rep M r

@[simp] theorem io_nd (b : Nat) (l r : Tr) : io (nd b l r) = io l ++ b :: io r := rfl
@[simp] theorem ht_nd (b : Nat) (l r : Tr) : ht (nd b l r) = 1 + max (ht l) (ht r) := rfl
@[simp] theorem root_nd (b : Nat) (l r : Tr) : root (nd b l r) = some b := rfl
@[simp] theorem Bal_nd (b : Nat) (l r : Tr) : Bal (nd b l r) = (Bal l ∧ Bal r ∧ ht l ≤ ht r + 1 ∧ ht r ≤ ht l + 1) := rfl
@[simp] theorem Rep_nd (M : Nat → Lv) (b : Nat) (l r : Tr) : Rep M (nd b l r) = ((M b).left = root l ∧ (M b).right = root r ∧ (M b).height = (1 + max (ht l) (ht r) : Nat) ∧ Rep M l ∧ Rep M r) := rfl

/-- Only pointers and heights of the tree's own nodes count. -/
theorem Rep.of {M M' : Nat → Lv} : ∀ {T : Tr}, Rep M T → (∀ b, b ∈ io T → (M' b).left = (M b).left ∧ (M' b).right = (M b).right ∧ (M' b).height = (M b).height) → Rep M' T
  | .nil, _, _ => trivial
  | .node b _ _ l r, h, e => by
    obtain ⟨h1, h2, h3, h4, h5⟩ := h
    obtain ⟨e1, e2, e3⟩ := e b (by simp [io])
    exact ⟨e1.trans h1, e2.trans h2, e3.trans h3, Rep.of h4 (fun x hx => e x (by simp [io, hx])), Rep.of h5 (fun x hx => e x (by simp [io, hx]))⟩

theorem Rep.same {M M' : Nat → Lv} {T : Tr} (h : Rep M T) (e : ∀ b, b ∈ io T → M' b = M b) : Rep M' T := h.of (fun b hb => by rw [e b hb]; exact ⟨rfl, rfl, rfl⟩)

/-- What stays when only pointers within the tree and heights turn. -/
def core (v : Lv) : Lv := { v with left := none, right := none, height := 0 }
def Only (M M' : Nat → Lv) (S : List Nat) : Prop := ∀ b, (b ∉ S → M' b = M b) ∧ core (M' b) = core (M b)
theorem Only.refl (M : Nat → Lv) (S : List Nat) : Only M M S := fun _ => ⟨fun _ => rfl, rfl⟩
theorem Only.trans {M M' M'' : Nat → Lv} {S : List Nat} (h : Only M M' S) (k : Only M' M'' S) : Only M M'' S := fun b => ⟨fun hb => ((k b).1 hb).trans ((h b).1 hb), (k b).2.trans (h b).2⟩
theorem Only.mono {M M' : Nat → Lv} {S S' : List Nat} (h : Only M M' S) (hs : ∀ b, b ∈ S → b ∈ S') : Only M M' S' := fun b => ⟨fun hb => (h b).1 (fun hb' => hb (hs b hb')), (h b).2⟩
theorem Only.upd (M : Nat → Lv) (b : Nat) (v : Lv) (h : core v = core (M b)) : Only M (upd M b v) [b] := fun x => by
  by_cases e : x = b
  · subst e; rw [upd_same]; exact ⟨fun hb => absurd (List.mem_singleton.2 rfl) hb, h⟩
  · rw [upd_other _ _ _ _ e]; exact ⟨fun _ => rfl, rfl⟩
theorem Only.price {M M' : Nat → Lv} {S : List Nat} (h : Only M M' S) (b : Nat) : (M' b).price = (M b).price := by
  have e : (core (M' b)).price = (core (M b)).price := by rw [(h b).2]
  exact e
theorem Only.better {M M' : Nat → Lv} {S : List Nat} (h : Only M M' S) (b : Nat) : (M' b).better = (M b).better := by
  have e : (core (M' b)).better = (core (M b)).better := by rw [(h b).2]
  exact e
theorem Only.worse {M M' : Nat → Lv} {S : List Nat} (h : Only M M' S) (b : Nat) : (M' b).worse = (M b).worse := by
  have e : (core (M' b)).worse = (core (M b)).worse := by rw [(h b).2]
  exact e

def hgt (M : Nat → Lv) : Option Nat → Int
  | none => 0
  | some b => (M b).height
theorem hgt_root {M : Nat → Lv} {T : Tr} (h : Rep M T) : hgt M (root T) = (ht T : Int) := by
  cases T with
  | nil => rfl
  | node b o u l r => exact h.2.2.1

/-! ### The four steps, on the map -/
def updH (M : Nat → Lv) (b : Nat) : Nat → Lv := upd M b { M b with height := 1 + max (hgt M (M b).left) (hgt M (M b).right) }
def setL (M : Nat → Lv) (b : Nat) (p : Option Nat) : Nat → Lv := upd M b { M b with left := p }
def setR (M : Nat → Lv) (b : Nat) (p : Option Nat) : Nat → Lv := upd M b { M b with right := p }
/-- t's left child l is lifted. -/
def rotR (M : Nat → Lv) (t l : Nat) : Nat → Lv := updH (updH (setR (setL M t (M l).right) l (some t)) t) l
def rotL (M : Nat → Lv) (t r : Nat) : Nat → Lv := updH (updH (setL (setR M t (M r).left) r (some t)) t) r

/-- Structural rebalancing, as the Go text chooses. -/
def balT (b : Nat) (l r : Tr) : Tr :=
  if ht r + 1 < ht l then
    match l with
    | .nil => nd b l r
    | .node lb _ _ ll lr =>
      if ht ll < ht lr then
        match lr with
        | .nil => nd b l r
        | .node m _ _ x y => nd m (nd lb ll x) (nd b y r)
      else nd lb ll (nd b lr r)
  else if ht l + 1 < ht r then
    match r with
    | .nil => nd b l r
    | .node rb _ _ rl rr =>
      if ht rr < ht rl then
        match rl with
        | .nil => nd b l r
        | .node m _ _ x y => nd m (nd b l x) (nd rb y rr)
      else nd rb (nd b l rl) rr
  else nd b l r

theorem balT_L2 (b lb o : Nat) (u : Unit) (ll : Tr) (m o' : Nat) (u' : Unit) (x y r : Tr) (hA : ht r + 1 < ht (.node lb o u ll (.node m o' u' x y))) (hB : ht ll < ht (.node m o' u' x y)) :
    balT b (.node lb o u ll (.node m o' u' x y)) r = nd m (nd lb ll x) (nd b y r) := by
  unfold balT
  rw [if_pos hA]
  show (if ht ll < ht (.node m o' u' x y) then _ else _) = _
  rw [if_pos hB]
theorem balT_L1 (b lb o : Nat) (u : Unit) (ll lr r : Tr) (hA : ht r + 1 < ht (.node lb o u ll lr)) (hB : ¬ ht ll < ht lr) :
    balT b (.node lb o u ll lr) r = nd lb ll (nd b lr r) := by
  unfold balT
  rw [if_pos hA]
  show (if ht ll < ht lr then _ else _) = _
  rw [if_neg hB]
theorem balT_R2 (b lb o : Nat) (u : Unit) (ll : Tr) (m o' : Nat) (u' : Unit) (y x l : Tr) (hA : ¬ ht (.node lb o u (.node m o' u' y x) ll) + 1 < ht l) (hC : ht l + 1 < ht (.node lb o u (.node m o' u' y x) ll)) (hB : ht ll < ht (.node m o' u' y x)) :
    balT b l (.node lb o u (.node m o' u' y x) ll) = nd m (nd b l y) (nd lb x ll) := by
  unfold balT
  rw [if_neg hA, if_pos hC]
  show (if ht ll < ht (.node m o' u' y x) then _ else _) = _
  rw [if_pos hB]
theorem balT_R1 (b lb o : Nat) (u : Unit) (ll lr l : Tr) (hA : ¬ ht (.node lb o u lr ll) + 1 < ht l) (hC : ht l + 1 < ht (.node lb o u lr ll)) (hB : ¬ ht ll < ht lr) :
    balT b l (.node lb o u lr ll) = nd lb (nd b l lr) ll := by
  unfold balT
  rw [if_neg hA, if_pos hC]
  show (if ht ll < ht lr then _ else _) = _
  rw [if_neg hB]

theorem io_balT (b : Nat) (l r : Tr) : io (balT b l r) = io l ++ b :: io r := by
  unfold balT
  split
  · split
    · simp
    · split
      · split
        · simp
        · simp [io]
      · simp [io]
  · split
    · split
      · simp
      · split
        · split
          · simp
          · simp [io]
        · simp [io]
    · simp

theorem bal_balT (b : Nat) (l r : Tr) (hl : Bal l) (hr : Bal r) (h1 : ht l ≤ ht r + 2) (h2 : ht r ≤ ht l + 2) :
    Bal (balT b l r) ∧ max (ht l) (ht r) ≤ ht (balT b l r) ∧ ht (balT b l r) ≤ 1 + max (ht l) (ht r) ∧ (ht l ≤ ht r + 1 → ht r ≤ ht l + 1 → ht (balT b l r) = 1 + max (ht l) (ht r)) := by
  unfold balT
  by_cases hA : ht r + 1 < ht l
  · rw [if_pos hA]
    cases l with
    | nil => simp [ht] at hA
    | node lb o u ll lr =>
      simp only [Bal, ht] at hl hA h1 h2 ⊢
      by_cases hB : ht ll < ht lr
      · rw [if_pos hB]
        cases lr with
        | nil => simp [ht] at hB
        | node m o' u' x y =>
          simp only [Bal, ht] at hl hA h1 h2 hB ⊢
          simp only [Bal_nd, ht_nd]
          obtain ⟨b1, ⟨b2, b3, b4, b5⟩, b6, b7⟩ := hl
          refine ⟨⟨⟨b1, b2, ?_, ?_⟩, ⟨b3, hr, ?_, ?_⟩, ?_, ?_⟩, ?_, ?_, fun _ _ => ?_⟩ <;> omega
      · rw [if_neg hB]
        simp only [Bal_nd, ht_nd]
        obtain ⟨b1, b2, b6, b7⟩ := hl
        refine ⟨⟨b1, ⟨b2, hr, ?_, ?_⟩, ?_, ?_⟩, ?_, ?_, fun _ _ => ?_⟩ <;> omega
  · rw [if_neg hA]
    by_cases hC : ht l + 1 < ht r
    · rw [if_pos hC]
      cases r with
      | nil => simp [ht] at hC
      | node rb o u rl rr =>
        simp only [Bal, ht] at hr hC h1 h2 hA ⊢
        by_cases hB : ht rr < ht rl
        · rw [if_pos hB]
          cases rl with
          | nil => simp [ht] at hB
          | node m o' u' x y =>
            simp only [Bal, ht] at hr hC h1 h2 hB hA ⊢
            simp only [Bal_nd, ht_nd]
            obtain ⟨⟨b2, b3, b4, b5⟩, b1, b6, b7⟩ := hr
            refine ⟨⟨⟨hl, b2, ?_, ?_⟩, ⟨b3, b1, ?_, ?_⟩, ?_, ?_⟩, ?_, ?_, fun _ _ => ?_⟩ <;> omega
        · rw [if_neg hB]
          simp only [Bal_nd, ht_nd]
          obtain ⟨b2, b1, b6, b7⟩ := hr
          refine ⟨⟨⟨hl, b2, ?_, ?_⟩, b1, ?_, ?_⟩, ?_, ?_, fun _ _ => ?_⟩ <;> omega
    · rw [if_neg hC]
      simp only [Bal_nd, ht_nd]
      refine ⟨⟨hl, hr, by omega, by omega⟩, by omega, by omega, fun _ _ => trivial⟩

/-- The number of nodes bounds the height. -/
theorem size_ht : ∀ (n : Nat) (T : Tr), ht T ≤ n → Bal T → 2 ^ (ht T / 2) ≤ (io T).length + 1
  | 0, T, h, _ => by
    have : ht T = 0 := by omega
    simp [this]
  | n + 1, .nil, _, _ => by simp [ht, io]
  | n + 1, .node b o u l r, h, hb => by
    simp only [ht, Bal, io, List.length_append, List.length_cons] at h hb ⊢
    have a := size_ht n l (by omega) hb.1
    have c := size_ht n r (by omega) hb.2.1
    rcases Nat.eq_zero_or_pos (max (ht l) (ht r)) with hz | hp
    · rw [hz]; simp
    · have h3 : ∀ k j : Nat, j ≤ k → 2 ^ j ≤ 2 ^ k := fun k j hjk => Nat.pow_le_pow_right (by omega) hjk
      have e : (1 + max (ht l) (ht r)) / 2 = (max (ht l) (ht r) - 1) / 2 + 1 := by omega
      rw [e, Nat.pow_succ]
      have p1 := h3 (ht l / 2) ((max (ht l) (ht r) - 1) / 2) (by omega)
      have p2 := h3 (ht r / 2) ((max (ht l) (ht r) - 1) / 2) (by omega)
      omega

theorem ht_le {T : Tr} (hb : Bal T) (hn : (io T).length ≤ 8190) : ht T ≤ 25 := by
  have h := size_ht _ T (Nat.le_refl _) hb
  rcases Nat.lt_or_ge 25 (ht T) with hgt | hle
  · exfalso
    have p : 2 ^ 13 ≤ 2 ^ (ht T / 2) := Nat.pow_le_pow_right (by omega) (by omega)
    have : (2 : Nat) ^ 13 = 8192 := by decide
    omega
  · exact hle

/-! ### The map's steps are the tree's steps -/
theorem updH_rep {M : Nat → Lv} {b : Nat} {l r : Tr} (hl : (M b).left = root l) (hr : (M b).right = root r) (rl : Rep M l) (rr : Rep M r) (nl : b ∉ io l) (nr : b ∉ io r) : Rep (updH M b) (nd b l r) := by
  have hl' : Rep (updH M b) l := rl.same (fun x hx => upd_other _ _ _ _ (fun e => nl (e ▸ hx)))
  have hr' : Rep (updH M b) r := rr.same (fun x hx => upd_other _ _ _ _ (fun e => nr (e ▸ hx)))
  rw [Rep_nd]
  refine ⟨?_, ?_, ?_, hl', hr'⟩
  · unfold updH; rw [upd_same]; exact hl
  · unfold updH; rw [upd_same]; exact hr
  · unfold updH
    rw [upd_same]
    show 1 + max (hgt M (M b).left) (hgt M (M b).right) = _
    rw [hl, hr, hgt_root rl, hgt_root rr]
    omega
theorem updH_only (M : Nat → Lv) (b : Nat) : Only M (updH M b) [b] := Only.upd _ _ _ rfl
theorem setL_only (M : Nat → Lv) (b : Nat) (p : Option Nat) : Only M (setL M b p) [b] := Only.upd _ _ _ rfl
theorem setR_only (M : Nat → Lv) (b : Nat) (p : Option Nat) : Only M (setR M b p) [b] := Only.upd _ _ _ rfl

theorem rotR_rep {M : Nat → Lv} {t lb : Nat} {ll lr r : Tr} (hl : (M t).left = some lb) (hr : (M t).right = root r) (hll : (M lb).left = root ll) (hlr : (M lb).right = root lr) (rll : Rep M ll) (rlr : Rep M lr) (rr : Rep M r)
    (hnd : (io (nd t (nd lb ll lr) r)).Nodup) : Rep (rotR M t lb) (nd lb ll (nd t lr r)) ∧ Only M (rotR M t lb) [t, lb] := by
  have hne : t ≠ lb := by
    intro e; subst e
    simp [List.nodup_append, List.nodup_cons] at hnd
  simp only [io_nd, List.append_assoc, List.cons_append, List.nodup_append, List.nodup_cons, List.mem_append, List.mem_cons] at hnd
  obtain ⟨n1, ⟨n2, n3, ⟨n4, n5⟩, n6⟩, n7⟩ := hnd
  have tll : t ∉ io ll := fun h => n7 t h t (.inr (.inr (.inl rfl))) rfl
  have tlr : t ∉ io lr := fun h => n6 t h t (.inl rfl) rfl
  have tr : t ∉ io r := n4
  have lll : lb ∉ io ll := fun h => n7 lb h lb (.inl rfl) rfl
  have llr : lb ∉ io lr := fun h => n2 (.inl h)
  have lr' : lb ∉ io r := fun h => n2 (.inr (.inr h))
  have keep : ∀ (v : Nat → Lv) (T : Tr), Rep v T → ∀ b x, b ∉ io T → Rep (upd v b x) T := fun v T h b x hb => h.same (fun y hy => upd_other _ _ _ _ (fun e => hb (e ▸ hy)))
  have e1 : (setR (setL M t (M lb).right) lb (some t) t).left = root lr := by
    unfold setR setL; rw [upd_other _ _ _ _ hne, upd_same]; exact hlr
  have e2 : (setR (setL M t (M lb).right) lb (some t) t).right = root r := by
    unfold setR setL; rw [upd_other _ _ _ _ hne, upd_same]; exact hr
  have e3 : (setR (setL M t (M lb).right) lb (some t) lb).left = root ll := by
    unfold setR setL; rw [upd_same, upd_other _ _ _ _ (fun e => hne e.symm)]; exact hll
  have e4 : (setR (setL M t (M lb).right) lb (some t) lb).right = some t := by
    unfold setR; rw [upd_same]
  have k1 : ∀ T : Tr, Rep M T → t ∉ io T → lb ∉ io T → Rep (setR (setL M t (M lb).right) lb (some t)) T := fun T h h1 h2 => keep _ _ (keep _ _ h _ _ h1) _ _ h2
  have s1 := updH_rep e1 e2 (k1 lr rlr tlr llr) (k1 r rr tr lr') tlr tr
  refine ⟨?_, ?_⟩
  · unfold rotR
    refine updH_rep (l := ll) (r := nd t lr r) ?_ ?_ ?_ s1 lll ?_
    · show (updH _ t lb).left = _
      unfold updH; rw [upd_other _ _ _ _ (fun e => hne e.symm)]; exact e3
    · show (updH _ t lb).right = _
      unfold updH; rw [upd_other _ _ _ _ (fun e => hne e.symm)]; exact e4
    · exact keep _ _ (k1 ll rll tll lll) _ _ tll
    · simp only [io_nd, List.mem_append, List.mem_cons]
      rintro (h | h | h)
      · exact llr h
      · exact hne h.symm
      · exact lr' h
  · unfold rotR
    exact (((setL_only M t _).mono (by simp)).trans ((setR_only _ lb _).mono (by simp))).trans (((updH_only _ t).mono (by simp)).trans ((updH_only _ lb).mono (by simp)))

theorem rotL_rep {M : Nat → Lv} {t rb : Nat} {l rl rr : Tr} (hr : (M t).right = some rb) (hl : (M t).left = root l) (hrl : (M rb).left = root rl) (hrr : (M rb).right = root rr) (rrl : Rep M rl) (rrr : Rep M rr) (rl' : Rep M l)
    (hnd : (io (nd t l (nd rb rl rr))).Nodup) : Rep (rotL M t rb) (nd rb (nd t l rl) rr) ∧ Only M (rotL M t rb) [t, rb] := by
  simp only [io_nd, List.append_assoc, List.cons_append, List.nodup_append, List.nodup_cons, List.mem_append, List.mem_cons] at hnd
  obtain ⟨n1, ⟨n2, n3, ⟨n4, n5⟩, n6⟩, n7⟩ := hnd
  have hne : t ≠ rb := fun e => n2 (.inr (.inl e))
  have tl : t ∉ io l := fun h => n7 t h t (.inl rfl) rfl
  have trl : t ∉ io rl := fun h => n2 (.inl h)
  have trr : t ∉ io rr := fun h => n2 (.inr (.inr h))
  have rbl : rb ∉ io l := fun h => n7 rb h rb (.inr (.inr (.inl rfl))) rfl
  have rbrl : rb ∉ io rl := fun h => n6 rb h rb (.inl rfl) rfl
  have rbrr : rb ∉ io rr := n4
  have keep : ∀ (v : Nat → Lv) (T : Tr), Rep v T → ∀ b x, b ∉ io T → Rep (upd v b x) T := fun v T h b x hb => h.same (fun y hy => upd_other _ _ _ _ (fun e => hb (e ▸ hy)))
  have e1 : (setL (setR M t (M rb).left) rb (some t) t).right = root rl := by
    unfold setR setL; rw [upd_other _ _ _ _ hne, upd_same]; exact hrl
  have e2 : (setL (setR M t (M rb).left) rb (some t) t).left = root l := by
    unfold setR setL; rw [upd_other _ _ _ _ hne, upd_same]; exact hl
  have e3 : (setL (setR M t (M rb).left) rb (some t) rb).right = root rr := by
    unfold setR setL; rw [upd_same, upd_other _ _ _ _ (fun e => hne e.symm)]; exact hrr
  have e4 : (setL (setR M t (M rb).left) rb (some t) rb).left = some t := by
    unfold setL; rw [upd_same]
  have k1 : ∀ T : Tr, Rep M T → t ∉ io T → rb ∉ io T → Rep (setL (setR M t (M rb).left) rb (some t)) T := fun T h h1 h2 => keep _ _ (keep _ _ h _ _ h1) _ _ h2
  have s1 := updH_rep e2 e1 (k1 l rl' tl rbl) (k1 rl rrl trl rbrl) tl trl
  refine ⟨?_, ?_⟩
  · unfold rotL
    refine updH_rep (l := nd t l rl) (r := rr) ?_ ?_ s1 ?_ ?_ rbrr
    · show (updH _ t rb).left = _
      unfold updH; rw [upd_other _ _ _ _ (fun e => hne e.symm)]; exact e4
    · show (updH _ t rb).right = _
      unfold updH; rw [upd_other _ _ _ _ (fun e => hne e.symm)]; exact e3
    · exact keep _ _ (k1 rr rrr trr rbrr) _ _ trr
    · simp only [io_nd, List.mem_append, List.mem_cons]
      rintro (h | h | h)
      · exact rbl h
      · exact hne h.symm
      · exact rbrl h
  · unfold rotL
    exact (((setR_only M t _).mono (by simp)).trans ((setL_only _ rb _).mono (by simp))).trans (((updH_only _ t).mono (by simp)).trans ((updH_only _ rb).mono (by simp)))
end Go.Proofs.YbulkdilgDoor
