/-
  THE HEAP OF 'LawS5478BWhole': what lies where while the law's own blocks are built and touched; one lemma for each thing that a round does to them. No walk stands here.
-/
import Derived.Below
import Derived.Deep.OwnRows
import Derived.Deep.AppendLies
import Derived.Deep.MidRow
import Derived.LaidEqlPtr
import Derived.WalkSmall
namespace Go.Proofs.Ybulkdiks
open Go.RowKit

def upd {α : Type} (f : Nat → α) (j : Nat) (x : α) : Nat → α := fun i => if i = j then x else f i
theorem upd_same {α : Type} (f : Nat → α) (j : Nat) (x : α) : upd f j x j = x := by simp [upd]
theorem upd_other {α : Type} (f : Nat → α) (j : Nat) (x : α) (i : Nat) (h : i ≠ j) : upd f j x i = f i := by simp [upd, h]

/-- A block of plain cells, none frozen. -/
def Plain (w : World) (b : Nat) (t : TypeId) : Prop := ∃ c, w.heap[b]? = some (.cells c t (0, 0))
theorem Plain.of {w w' : World} {b : Nat} {t : TypeId} (h : Plain w b t) (e : w'.heap[b]? = w.heap[b]?) : Plain w' b t := by
  obtain ⟨c, hc⟩ := h; exact ⟨c, e.trans hc⟩
theorem Plain.lt {w : World} {b : Nat} {t : TypeId} (h : Plain w b t) : b < w.heap.size := by
  obtain ⟨c, hc⟩ := h; exact (Array.getElem?_eq_some_iff.1 hc).1

/-- The market of index j lies in block b; its touched slice is v. -/
def Mkt (w : World) (b j : Nat) (v : Value) : Prop := ∃ c, w.heap[b]? = some (.cells c 74 (0, 0)) ∧ c.size = 46 ∧ c[14]? = some (.int .i64 j) ∧ c[41]? = some v
theorem Mkt.of {w w' : World} {b j : Nat} {v : Value} (h : Mkt w b j v) (e : w'.heap[b]? = w.heap[b]?) : Mkt w' b j v := by
  obtain ⟨c, hc, r⟩ := h; exact ⟨c, e.trans hc, r⟩
theorem Mkt.lt {w : World} {b j : Nat} {v : Value} (h : Mkt w b j v) : b < w.heap.size := by
  obtain ⟨c, hc, _⟩ := h; exact (Array.getElem?_eq_some_iff.1 hc).1
theorem Mkt.cell14 {w : World} {b j : Nat} {v : Value} (h : Mkt w b j v) : w.cell? ⟨b, 14, none⟩ = some (.int .i64 j) := by
  obtain ⟨c, hc, _, h1, _⟩ := h; simp [World.cell?, hc, h1]
theorem Mkt.cell41 {w : World} {b j : Nat} {v : Value} (h : Mkt w b j v) : w.cell? ⟨b, 41, none⟩ = some v := by
  obtain ⟨c, hc, _, _, h1⟩ := h; simp [World.cell?, hc, h1]
theorem Mkt.free {w : World} {b j : Nat} {v : Value} (h : Mkt w b j v) (o : Nat) : w.frozen? ⟨b, o, none⟩ = false := by
  obtain ⟨c, hc, _⟩ := h; simp [World.frozen?, hc]
theorem Mkt.set {w : World} {b j : Nat} {v : Value} (h : Mkt w b j v) (v' : Value) : Mkt (w.setCell ⟨b, 41, none⟩ v') b j v' := by
  obtain ⟨c, hc, hs, h1, h2⟩ := h
  refine ⟨c.setIfInBounds 41 v', ?_, by simpa using hs, ?_, ?_⟩
  · simp [World.setCell, Array.getElem?_modify, hc]
  · rw [Array.getElem?_setIfInBounds, if_neg (by omega)]; exact h1
  · rw [Array.getElem?_setIfInBounds]; simp [hs]

def stk (F : Nat → Nat → Value) : Nat → Value := fun x => F (x / 41) (x % 41)
def StkOk (n : Nat) (F : Nat → Nat → Value) (tch : Nat → Bool) : Prop :=
  ∀ i, i < n → F i 39 = .bool (tch i) ∧ F i 0 = .int .i64 0 ∧ F i 36 = .bool false ∧ F i 37 = .bool false ∧ F i 38 = .bool false ∧ F i 40 = .int .u32 0 ∧ ∀ r, r < 41 → (F i r).oneCell' = true
def Stakes (w : World) (bS n : Nat) (tch : Nat → Bool) : Prop := ∃ F, w.rowIs bS 45 (n * 41) (stk F) ∧ StkOk n F tch

def Acc (w : World) (bA bS n : Nat) (hv : Value) : Prop :=
  ∃ cs, w.heap[bA]? = some (.cells cs 30 (0, 0)) ∧ cs.size = 6 ∧ cs[2]? = some (.slice (some ⟨bS, 0, none⟩) n n) ∧ cs[3]? = some hv

structure Sit (w0 w : World) (bO bM bS bA bP B0 n c d : Nat) (tch : Nat → Bool) (K : Nat → Nat) (V : Nat → Value) (L : Nat → List Value) (pr : Nat → Nat) (hv : Value) (H : List Value) (E : List (Nat × Array Value)) : Prop where
  below : Below bO w0 w
  o1 : bO < bM
  o2 : bM < bS
  o3 : bS < bA
  o4 : bA < bP
  o5 : bP < B0
  o6 : B0 ≤ w.heap.size
  other : Plain w bO 30
  ms : w.rowIs bM 46 n (fun i => if i < c then .pointer (some ⟨K i, 0, none⟩) else .pointer none)
  stakes : Stakes w bS n tch
  acc : Acc w bA bS n hv
  pres : w.rowIs bP 3 n (fun i => .int .i64 (pr i))
  mkt : ∀ i, i < d → B0 ≤ K i ∧ Mkt w (K i) i (V i)
  own : ∀ i, i < d → w.ownsRow B0 24 1 (V i) (L i).length (L i)
  kinj : ∀ i j, i < d → j < d → K i = K j → i = j
  vinj : ∀ i j g, i < d → j < d → (V i).ownBlock = some g → (V j).ownBlock = some g → i = j
  hold : w.ownsRow B0 46 1 hv H.length H
  ext : ∀ x, x ∈ E → B0 ≤ x.1 ∧ w.heap[x.1]? = some (.cells x.2 46 (0, 0))

section
variable {w0 w w' : World} {bO bM bS bA bP B0 n c d : Nat} {tch : Nat → Bool} {K : Nat → Nat} {V : Nat → Value} {L : Nat → List Value} {pr : Nat → Nat} {hv : Value} {H : List Value} {E : List (Nat × Array Value)}

theorem Acc.of (h : Acc w bA bS n hv) (e : w'.heap[bA]? = w.heap[bA]?) : Acc w' bA bS n hv := by
  obtain ⟨cs, hc, r⟩ := h; exact ⟨cs, e.trans hc, r⟩
theorem Acc.lt (h : Acc w bA bS n hv) : bA < w.heap.size := by
  obtain ⟨c, hc, _⟩ := h; exact (Array.getElem?_eq_some_iff.1 hc).1
theorem Acc.plain (h : Acc w bA bS n hv) : Plain w bA 30 := by
  obtain ⟨c, hc, _⟩ := h; exact ⟨c, hc⟩
theorem Acc.cell2 (h : Acc w bA bS n hv) : w.cell? ⟨bA, 2, none⟩ = some (.slice (some ⟨bS, 0, none⟩) n n) := by
  obtain ⟨c, hc, _, h1, _⟩ := h; simp [World.cell?, hc, h1]
theorem Acc.cell3 (h : Acc w bA bS n hv) : w.cell? ⟨bA, 3, none⟩ = some hv := by
  obtain ⟨c, hc, _, _, h1⟩ := h; simp [World.cell?, hc, h1]
theorem Acc.free (h : Acc w bA bS n hv) (o : Nat) : w.frozen? ⟨bA, o, none⟩ = false := by
  obtain ⟨c, hc, _⟩ := h; simp [World.frozen?, hc]
theorem Acc.set (h : Acc w bA bS n hv) (v' : Value) : Acc (w.setCell ⟨bA, 3, none⟩ v') bA bS n v' := by
  obtain ⟨c, hc, hs, h1, h2⟩ := h
  refine ⟨c.setIfInBounds 3 v', ?_, by simpa using hs, ?_, ?_⟩
  · simp [World.setCell, Array.getElem?_modify, hc]
  · rw [Array.getElem?_setIfInBounds, if_neg (by omega)]; exact h1
  · rw [Array.getElem?_setIfInBounds]; simp [hs]

theorem Stakes.of (h : Stakes w bS n tch) (e : w'.heap[bS]? = w.heap[bS]?) : Stakes w' bS n tch := by
  obtain ⟨F, hr, ok⟩ := h; exact ⟨F, hr.of_block e, ok⟩
theorem Stakes.lt (h : Stakes w bS n tch) : bS < w.heap.size := by obtain ⟨F, hr, _⟩ := h; exact hr.lt
theorem Stakes.free (h : Stakes w bS n tch) (o : Nat) : w.frozen? ⟨bS, o, none⟩ = false := by obtain ⟨F, hr, _⟩ := h; exact hr.frozen o
theorem stk_at (F : Nat → Nat → Value) (i r : Nat) (hr : r < 41) : stk F (i * 41 + r) = F i r := by
  unfold stk
  rw [show (i * 41 + r) / 41 = i by omega, show (i * 41 + r) % 41 = r by omega]
theorem Stakes.cell39 (h : Stakes w bS n tch) {i : Nat} (hi : i < n) : w.cell? ⟨bS, i * 41 + 39, none⟩ = some (.bool (tch i)) := by
  obtain ⟨F, hr, ok⟩ := h
  rw [hr.cell (by omega), stk_at F i 39 (by omega), (ok i hi).1]
theorem Stakes.set (h : Stakes w bS n tch) {i : Nat} (_hi : i < n) (b : Bool) : Stakes (w.setCell ⟨bS, i * 41 + 39, none⟩ (.bool b)) bS n (upd tch i b) := by
  obtain ⟨F, hr, ok⟩ := h
  refine ⟨fun i' r => if i' = i ∧ r = 39 then .bool b else F i' r, (hr.set (i * 41 + 39) (.bool b)).congr ?_, ?_⟩
  · intro x hx
    unfold stk
    simp only []
    by_cases e : x = i * 41 + 39
    · rw [if_pos e, if_pos (by omega)]
    · rw [if_neg e, if_neg (by omega)]
  · intro i' hi'
    obtain ⟨h1, h2, h3, h4, h5, h6, h7⟩ := ok i' hi'
    have last : ∀ r, r < 41 → (if i' = i ∧ r = 39 then Value.bool b else F i' r).oneCell' = true := by
      intro r hr
      by_cases e : i' = i ∧ r = 39
      · rw [if_pos e]; rfl
      · rw [if_neg e]; exact h7 r hr
    refine ⟨?_, ?_, ?_, ?_, ?_, ?_, last⟩ <;> simp only [upd]
    · by_cases e : i' = i
      · simp [e]
      · simp [e, h1]
    all_goals simp_all
theorem Stakes.range (h : Stakes w bS n tch) {i : Nat} (hi : i < n) : ∃ cs : List Value, cs.length = 41 ∧ w.rangeAt bS (i * 41) cs ∧ cs[39]? = some (.bool (tch i)) ∧ cs[0]? = some (.int .i64 0) ∧ cs[36]? = some (.bool false) ∧
    cs[37]? = some (.bool false) ∧ cs[38]? = some (.bool false) ∧ cs[40]? = some (.int .u32 0) ∧ ∀ v ∈ cs, v.oneCell' = true := by
  obtain ⟨F, hr, ok⟩ := h
  obtain ⟨h1, h2, h3, h4, h5, h6, h7⟩ := ok i hi
  have last : ∀ v ∈ (List.range 41).map (F i), v.oneCell' = true := by
    intro v hv
    rw [List.mem_map] at hv
    obtain ⟨r, hr', rfl⟩ := hv
    exact h7 r (by simpa using hr')
  refine ⟨(List.range 41).map (F i), by simp, ?_, ?_, ?_, ?_, ?_, ?_, ?_, last⟩
  · intro j v hv
    simp only [List.getElem?_map, Option.map_eq_some_iff] at hv
    obtain ⟨j', hj', rfl⟩ := hv
    obtain ⟨hlt, e⟩ := List.getElem?_eq_some_iff.1 hj'
    simp at hlt e
    subst e
    rw [hr.cell (by omega), stk_at F i j hlt]
  all_goals simp [*]

/-- What another block's change leaves. -/
theorem Sit.kinds (h : Sit w0 w bO bM bS bA bP B0 n c d tch K V L pr hv H E) {i : Nat} (hi : i < d) : ∀ g, (V i).ownBlock = some g → B0 ≤ g ∧ g < w.heap.size ∧ hv.ownBlock ≠ some g ∧ ∀ j, j < d → K j ≠ g := by
  intro g hg
  have hl := (h.own i hi).lt g hg
  refine ⟨hl.1, hl.2, ?_, ?_⟩
  · intro e
    rcases (h.own i hi).2 with ⟨e1, _⟩ | ⟨g1, cap1, cur1, e1, _, hh1, _⟩
    · rw [e1] at hg; simp [Value.ownBlock] at hg
    · rw [e1] at hg
      rcases h.hold.2 with ⟨e2, _⟩ | ⟨g2, cap2, cur2, e2, _, hh2, _⟩
      · rw [e2] at e; simp [Value.ownBlock] at e
      · rw [e2] at e
        simp [Value.ownBlock] at hg e
        subst hg; subst e
        rw [hh1] at hh2
        simp at hh2
  · intro j hj e
    obtain ⟨_, cc, hc, _⟩ := h.mkt j hj
    rcases (h.own i hi).2 with ⟨e1, _⟩ | ⟨g1, cap1, cur1, e1, _, hh1, _⟩
    · rw [e1] at hg; simp [Value.ownBlock] at hg
    · rw [e1] at hg
      simp [Value.ownBlock] at hg
      subst hg
      rw [← e, hc] at hh1
      simp at hh1

theorem Sit.kindH (h : Sit w0 w bO bM bS bA bP B0 n c d tch K V L pr hv H E) : ∀ g, hv.ownBlock = some g → B0 ≤ g ∧ g < w.heap.size ∧ ∀ j, j < d → K j ≠ g := by
  intro g hg
  have hl := h.hold.lt g hg
  refine ⟨hl.1, hl.2, ?_⟩
  intro j hj e
  obtain ⟨_, cc, hc, _⟩ := h.mkt j hj
  rcases h.hold.2 with ⟨e1, _⟩ | ⟨g1, cap1, cur1, e1, _, hh1, _⟩
  · rw [e1] at hg; simp [Value.ownBlock] at hg
  · rw [e1] at hg
    simp [Value.ownBlock] at hg
    subst hg
    rw [← e, hc] at hh1
    simp at hh1

theorem grownBy_below {w w' : World} (h : Below w.heap.size w w') : w.grownBy w' none := ⟨h.os, h.tape, h.output, h.size, fun k hk _ => h.block k hk⟩
theorem grownBy_setCell (w : World) (a : Addr) (v : Value) : w.grownBy (w.setCell a v) (some a.block) :=
  ⟨rfl, rfl, rfl, by simp [World.setCell], fun k _ hne => Below.heap_setCell w a v k (fun e => hne (by rw [e]))⟩

/-- Nothing of all this is touched. -/
theorem Sit.kept (h : Sit w0 w bO bM bS bA bP B0 n c d tch K V L pr hv H E) (g : Below w.heap.size w w') : Sit w0 w' bO bM bS bA bP B0 n c d tch K V L pr hv H E := by
  have gb := grownBy_below g
  have hO := h.other.lt
  exact ⟨h.below.trans (g.mono (by omega)), h.o1, h.o2, h.o3, h.o4, h.o5, Nat.le_trans h.o6 g.size, h.other.of (g.block _ hO), h.ms.of_block (g.block _ h.ms.lt), h.stakes.of (g.block _ h.stakes.lt), h.acc.of (g.block _ h.acc.lt), h.pres.of_block (g.block _ h.pres.lt),
    fun i hi => ⟨(h.mkt i hi).1, (h.mkt i hi).2.of (g.block _ (h.mkt i hi).2.lt)⟩, fun i hi => (h.own i hi).kept gb (by cases hh : (V i).ownBlock <;> simp), h.kinj, h.vinj, h.hold.kept gb (by cases hh : hv.ownBlock <;> simp), fun x hx => ⟨(h.ext x hx).1, (g.block _ (Array.getElem?_eq_some_iff.1 (h.ext x hx).2).1).trans (h.ext x hx).2⟩⟩

theorem ownNe {v : Value} {b : Nat} (h : v.ownBlock = some b → False) : v.ownBlock = none ∨ v.ownBlock ≠ some b := .inr h

/-- A store into a stake's mark. -/
theorem Sit.stake (h : Sit w0 w bO bM bS bA bP B0 n c d tch K V L pr hv H E) {i : Nat} (hi : i < n) (b : Bool) : Sit w0 (w.setCell ⟨bS, i * 41 + 39, none⟩ (.bool b)) bO bM bS bA bP B0 n c d (upd tch i b) K V L pr hv H E := by
  have gb : w.grownBy _ (some bS) := grownBy_setCell w ⟨bS, i * 41 + 39, none⟩ (.bool b)
  have o1 := h.o1; have o2 := h.o2; have o3 := h.o3; have o4 := h.o4; have o5 := h.o5; have o6 := h.o6
  have blk : ∀ k, k ≠ bS → (w.setCell ⟨bS, i * 41 + 39, none⟩ (.bool b)).heap[k]? = w.heap[k]? := fun k hk => Below.heap_setCell _ _ _ _ hk
  exact ⟨h.below.setCell (show bO ≤ bS by omega) _, h.o1, h.o2, h.o3, h.o4, h.o5, by simpa using h.o6, h.other.of (blk _ (by omega)), h.ms.of_block (blk _ (by omega)), h.stakes.set hi b, h.acc.of (blk _ (by omega)), h.pres.of_block (blk _ (by omega)),
    fun j hj => ⟨(h.mkt j hj).1, (h.mkt j hj).2.of (blk _ (by have := (h.mkt j hj).1; omega))⟩, fun j hj => (h.own j hj).kept gb (ownNe fun e => by have := (h.kinds hj _ e).1; omega), h.kinj, h.vinj,
    h.hold.kept gb (ownNe fun e => by have := (h.kindH _ e).1; omega), fun x hx => ⟨(h.ext x hx).1, (blk _ (by have := (h.ext x hx).1; omega)).trans (h.ext x hx).2⟩⟩

/-- A store into pres. -/
theorem Sit.pre (h : Sit w0 w bO bM bS bA bP B0 n c d tch K V L pr hv H E) (i x : Nat) : Sit w0 (w.setCell ⟨bP, i, none⟩ (.int .i64 x)) bO bM bS bA bP B0 n c d tch K V L (upd pr i x) hv H E := by
  have gb : w.grownBy _ (some bP) := grownBy_setCell w ⟨bP, i, none⟩ (.int .i64 x)
  have o1 := h.o1; have o2 := h.o2; have o3 := h.o3; have o4 := h.o4; have o5 := h.o5; have o6 := h.o6
  have blk : ∀ k, k ≠ bP → (w.setCell ⟨bP, i, none⟩ (.int .i64 x)).heap[k]? = w.heap[k]? := fun k hk => Below.heap_setCell _ _ _ _ hk
  refine ⟨h.below.setCell (show bO ≤ bP by omega) _, h.o1, h.o2, h.o3, h.o4, h.o5, by simpa using h.o6, h.other.of (blk _ (by omega)), h.ms.of_block (blk _ (by omega)), h.stakes.of (blk _ (by omega)), h.acc.of (blk _ (by omega)), (h.pres.set i _).congr ?_,
    fun j hj => ⟨(h.mkt j hj).1, (h.mkt j hj).2.of (blk _ (by have := (h.mkt j hj).1; omega))⟩, fun j hj => (h.own j hj).kept gb (ownNe fun e => by have := (h.kinds hj _ e).1; omega), h.kinj, h.vinj,
    h.hold.kept gb (ownNe fun e => by have := (h.kindH _ e).1; omega), fun x hx => ⟨(h.ext x hx).1, (blk _ (by have := (h.ext x hx).1; omega)).trans (h.ext x hx).2⟩⟩
  intro j hj
  by_cases e : j = i <;> simp [upd, e]

/-- A new market. -/
theorem Sit.market (h : Sit w0 w bO bM bS bA bP B0 n c d tch K V L pr hv H E) (cs : Array Value) (hs : cs.size = 46) (h14 : cs[14]? = some (.int .i64 d)) (h41 : cs[41]? = some (.slice none 0 0)) (hcd : c ≤ d) :
    Sit w0 (w.alloc (.cells cs 74)) bO bM bS bA bP B0 n c (d + 1) tch (upd K d w.heap.size) (upd V d (.slice none 0 0)) (upd L d []) pr hv H E := by
  have k := h.kept (w' := w.alloc (.cells cs 74)) ((Below.refl _ _).alloc (Nat.le_refl _) _)
  have o6 := h.o6
  refine ⟨k.below, k.o1, k.o2, k.o3, k.o4, k.o5, k.o6, k.other, k.ms.congr ?_, k.stakes, k.acc, k.pres, ?_, ?_, ?_, ?_, k.hold, k.ext⟩
  · intro i hi
    by_cases e : i < c
    · simp [e, upd_other K d _ i (by omega)]
    · simp [e]
  · intro i hi
    by_cases e : i = d
    · subst e
      rw [upd_same, upd_same]
      exact ⟨o6, cs, heap_alloc_new w _, hs, h14, h41⟩
    · rw [upd_other _ _ _ _ e, upd_other _ _ _ _ e]
      exact k.mkt i (by omega)
  · intro i hi
    by_cases e : i = d
    · subst e
      rw [upd_same, upd_same]
      exact World.ownsRow_nil _ _ _ _
    · rw [upd_other _ _ _ _ e, upd_other _ _ _ _ e]
      exact k.own i (by omega)
  · intro i j hi hj
    by_cases e : i = d
    · by_cases e2 : j = d
      · omega
      · subst e
        rw [upd_same, upd_other _ _ _ _ e2]
        have := (h.mkt j (by omega)).2.lt
        omega
    · by_cases e2 : j = d
      · subst e2
        rw [upd_same, upd_other _ _ _ _ e]
        have := (h.mkt i (by omega)).2.lt
        omega
      · rw [upd_other _ _ _ _ e, upd_other _ _ _ _ e2]
        exact h.kinj i j (by omega) (by omega)
  · intro i j g hi hj
    by_cases e : i = d
    · subst e; rw [upd_same]; intro h; simp [Value.ownBlock] at h
    · by_cases e2 : j = d
      · subst e2; rw [upd_same]; intro _ h; simp [Value.ownBlock] at h
      · rw [upd_other _ _ _ _ e, upd_other _ _ _ _ e2]
        exact h.vinj i j g (by omega) (by omega)

/-- The new market into ms. -/
theorem Sit.putMs (h : Sit w0 w bO bM bS bA bP B0 n c d tch K V L pr hv H E) : Sit w0 (w.setCell ⟨bM, c, none⟩ (.pointer (some ⟨K c, 0, none⟩))) bO bM bS bA bP B0 n (c + 1) d tch K V L pr hv H E := by
  have gb : w.grownBy _ (some bM) := grownBy_setCell w ⟨bM, c, none⟩ (.pointer (some ⟨K c, 0, none⟩))
  have o1 := h.o1; have o2 := h.o2; have o3 := h.o3; have o4 := h.o4; have o5 := h.o5; have o6 := h.o6
  have blk : ∀ k, k ≠ bM → (w.setCell ⟨bM, c, none⟩ (.pointer (some ⟨K c, 0, none⟩))).heap[k]? = w.heap[k]? := fun k hk => Below.heap_setCell _ _ _ _ hk
  refine ⟨h.below.setCell (show bO ≤ bM by omega) _, h.o1, h.o2, h.o3, h.o4, h.o5, by simpa using h.o6, h.other.of (blk _ (by omega)), (h.ms.set c _).congr ?_, h.stakes.of (blk _ (by omega)), h.acc.of (blk _ (by omega)), h.pres.of_block (blk _ (by omega)),
    fun j hj => ⟨(h.mkt j hj).1, (h.mkt j hj).2.of (blk _ (by have := (h.mkt j hj).1; omega))⟩, fun j hj => (h.own j hj).kept gb (ownNe fun e => by have := (h.kinds hj _ e).1; omega), h.kinj, h.vinj,
    h.hold.kept gb (ownNe fun e => by have := (h.kindH _ e).1; omega), fun x hx => ⟨(h.ext x hx).1, (blk _ (by have := (h.ext x hx).1; omega)).trans (h.ext x hx).2⟩⟩
  intro j hj
  by_cases e : j = c
  · simp [e]
  · by_cases e2 : j < c
    · simp [e, e2, show j < c + 1 by omega]
    · simp [e, e2, show ¬ j < c + 1 by omega]

/-- An account is appended to market j's touched slice and the slice is stored back. -/
theorem Sit.app (h : Sit w0 w bO bM bS bA bP B0 n c d tch K V L pr hv H E) {j : Nat} (hj : j < d) (x : Value) (o : Obj) {g cap : Nat} {w2 : World}
    (hown : w2.ownsRow B0 24 1 (.slice (some ⟨g, 0, none⟩) ((L j).length + 1) cap) ((L j).length + 1) (L j ++ [x])) (hgrow : (w.alloc o).grownBy w2 (V j).ownBlock) (hat : (V j).ownBlock = some g ∨ g = w.heap.size + 1) :
    Sit w0 (w2.setCell ⟨K j, 41, none⟩ (.slice (some ⟨g, 0, none⟩) ((L j).length + 1) cap)) bO bM bS bA bP B0 n c d tch K (upd V j (.slice (some ⟨g, 0, none⟩) ((L j).length + 1) cap)) (upd L j (L j ++ [x])) pr hv H E := by
  have o1 := h.o1; have o2 := h.o2; have o3 := h.o3; have o4 := h.o4; have o5 := h.o5; have o6 := h.o6
  obtain ⟨kb, km⟩ := h.mkt j hj
  have hrow : ∀ k, (V j).ownBlock = some k → B0 ≤ k ∧ k < w.heap.size ∧ hv.ownBlock ≠ some k ∧ ∀ i, i < d → K i ≠ k := h.kinds hj
  have b2 : ∀ k, k < w.heap.size → (V j).ownBlock ≠ some k → w2.heap[k]? = w.heap[k]? := fun k hk hne =>
    (hgrow.block k (by simp; omega) (fun e => hne e.symm)).trans (Below.heap_alloc w o k hk)
  have blk : ∀ k, k < w.heap.size → (V j).ownBlock ≠ some k → k ≠ K j → (w2.setCell ⟨K j, 41, none⟩ (.slice (some ⟨g, 0, none⟩) ((L j).length + 1) cap)).heap[k]? = w.heap[k]? := fun k hk hne hK =>
    (Below.heap_setCell w2 ⟨K j, 41, none⟩ _ k hK).trans (b2 k hk hne)
  have low : ∀ k, k < B0 → (V j).ownBlock ≠ some k := fun k hk e => by have := (hrow k e).1; omega
  have hsz : w.heap.size + 1 ≤ w2.heap.size := by have := hgrow.size; simpa using this
  have hKg : ∀ i, i < d → K i ≠ g := fun i hi e => by
    rcases hat with hat | hat
    · exact (hrow g hat).2.2.2 i hi e
    · have := (h.mkt i hi).2.lt; omega
  have bel : Below bO w0 w2 := (h.below.alloc (by omega) o).grown hgrow (by simp; omega) (fun k e => by have := (hrow k e).1; omega)
  refine ⟨bel.setCell (show bO ≤ K j by omega) _, o1, o2, o3, o4, o5, by simp; omega, h.other.of (blk _ (by omega) (low _ (by omega)) (by omega)), h.ms.of_block (blk _ (by omega) (low _ (by omega)) (by omega)),
    h.stakes.of (blk _ (by omega) (low _ (by omega)) (by omega)), h.acc.of (blk _ (by omega) (low _ (by omega)) (by omega)), h.pres.of_block (blk _ (by omega) (low _ (by omega)) (by omega)), ?_, ?_, h.kinj, ?_, ?_, ?_⟩
  · intro i hi
    refine ⟨(h.mkt i hi).1, ?_⟩
    have km2 : Mkt w2 (K i) i (V i) := (h.mkt i hi).2.of (b2 _ (h.mkt i hi).2.lt (fun e => (hrow _ e).2.2.2 i hi rfl))
    by_cases e : i = j
    · subst e
      rw [upd_same]
      exact km2.set _
    · rw [upd_other _ _ _ _ e]
      exact km2.of (Below.heap_setCell _ _ _ _ (fun e' => e (h.kinj i j hi hj e')))
  · intro i hi
    by_cases e : i = j
    · subst e
      rw [upd_same, upd_same, List.length_append]
      exact hown.kept (grownBy_setCell _ _ _) (ownNe fun e' => by simp [Value.ownBlock] at e'; exact hKg i hi e'.symm)
    · rw [upd_other _ _ _ _ e, upd_other _ _ _ _ e]
      have k1 := ((h.own i hi).alloc o).kept hgrow (by
        cases hh : (V i).ownBlock with
        | none => exact .inl rfl
        | some k => exact .inr (fun e' => e (h.vinj i j k hi hj hh e'.symm)))
      exact k1.kept (grownBy_setCell _ _ _) (ownNe fun e' => (h.kinds hi _ e').2.2.2 j hj rfl)
  · have key : ∀ i, i < d → i ≠ j → (V i).ownBlock ≠ some g := fun i hi e e' => by
      rcases hat with hat | hat
      · exact e (h.vinj i j g hi hj e' hat)
      · have := (h.kinds hi g e').2.1; omega
    intro i1 i2 g' h1 h2
    by_cases e1 : i1 = j
    · by_cases e2 : i2 = j
      · omega
      · subst e1
        rw [upd_same, upd_other _ _ _ _ e2]
        intro a1 a2
        simp [Value.ownBlock] at a1
        exact absurd a2 (a1 ▸ key i2 h2 e2)
    · by_cases e2 : i2 = j
      · subst e2
        rw [upd_same, upd_other _ _ _ _ e1]
        intro a1 a2
        simp [Value.ownBlock] at a2
        exact absurd a1 (a2 ▸ key i1 h1 e1)
      · rw [upd_other _ _ _ _ e1, upd_other _ _ _ _ e2]
        exact h.vinj i1 i2 g' h1 h2
  · have k1 := (h.hold.alloc o).kept hgrow (by
      cases hh : hv.ownBlock with
      | none => exact .inl rfl
      | some k => exact .inr (fun e' => (hrow k e'.symm).2.2.1 hh))
    exact k1.kept (grownBy_setCell _ _ _) (ownNe fun e' => (h.kindH _ e').2.2 j hj rfl)
  · intro x hx
    obtain ⟨e1, e2⟩ := h.ext x hx
    refine ⟨e1, (blk _ (Array.getElem?_eq_some_iff.1 e2).1 ?_ ?_).trans e2⟩
    · intro e'
      rcases (h.own j hj).2 with ⟨q, _⟩ | ⟨g1, cap1, cur1, q, _, hh1, _⟩
      · rw [q] at e'; simp [Value.ownBlock] at e'
      · rw [q] at e'
        simp [Value.ownBlock] at e'
        rw [e', e2] at hh1
        simp at hh1
    · intro e'
      obtain ⟨cc, hc, _⟩ := km
      rw [← e', e2] at hc
      simp at hc

/-- A market is appended to a.holding and the slice is stored back. -/
theorem Sit.held (h : Sit w0 w bO bM bS bA bP B0 n c d tch K V L pr hv H []) (x : Value) (o : Obj) {g cap : Nat} {w2 : World}
    (hown : w2.ownsRow B0 46 1 (.slice (some ⟨g, 0, none⟩) (H.length + 1) cap) (H.length + 1) (H ++ [x])) (hgrow : (w.alloc o).grownBy w2 hv.ownBlock) (hat : hv.ownBlock = some g ∨ g = w.heap.size + 1) :
    Sit w0 (w2.setCell ⟨bA, 3, none⟩ (.slice (some ⟨g, 0, none⟩) (H.length + 1) cap)) bO bM bS bA bP B0 n c d tch K V L pr (.slice (some ⟨g, 0, none⟩) (H.length + 1) cap) (H ++ [x]) [] := by
  have o1 := h.o1; have o2 := h.o2; have o3 := h.o3; have o4 := h.o4; have o5 := h.o5; have o6 := h.o6
  have hrow := h.kindH
  have b2 : ∀ k, k < w.heap.size → hv.ownBlock ≠ some k → w2.heap[k]? = w.heap[k]? := fun k hk hne =>
    (hgrow.block k (by simp; omega) (fun e => hne e.symm)).trans (Below.heap_alloc w o k hk)
  have blk : ∀ k, k < w.heap.size → hv.ownBlock ≠ some k → k ≠ bA → (w2.setCell ⟨bA, 3, none⟩ (.slice (some ⟨g, 0, none⟩) (H.length + 1) cap)).heap[k]? = w.heap[k]? := fun k hk hne hK =>
    (Below.heap_setCell w2 ⟨bA, 3, none⟩ _ k hK).trans (b2 k hk hne)
  have low : ∀ k, k < B0 → hv.ownBlock ≠ some k := fun k hk e => by have := (hrow k e).1; omega
  have hsz : w.heap.size + 1 ≤ w2.heap.size := by have := hgrow.size; simpa using this
  have bel : Below bO w0 w2 := (h.below.alloc (by omega) o).grown hgrow (by simp; omega) (fun k e => by have := (hrow k e).1; omega)
  have hgA : g ≠ bA := by
    rcases hat with hat | hat
    · have := (hrow g hat).1; omega
    · omega
  refine ⟨bel.setCell (show bO ≤ bA by omega) _, o1, o2, o3, o4, o5, by simp; omega, h.other.of (blk _ (by omega) (low _ (by omega)) (by omega)), h.ms.of_block (blk _ (by omega) (low _ (by omega)) (by omega)),
    h.stakes.of (blk _ (by omega) (low _ (by omega)) (by omega)), (h.acc.of (b2 _ (by omega) (low _ (by omega)))).set _, h.pres.of_block (blk _ (by omega) (low _ (by omega)) (by omega)), ?_, ?_, h.kinj, h.vinj, ?_, fun x hx => by simp at hx⟩
  · intro i hi
    exact ⟨(h.mkt i hi).1, (h.mkt i hi).2.of (blk _ (h.mkt i hi).2.lt (fun e => (hrow _ e).2.2 i hi rfl) (by have := (h.mkt i hi).1; omega))⟩
  · intro i hi
    have k1 := ((h.own i hi).alloc o).kept hgrow (by
      cases hh : (V i).ownBlock with
      | none => exact .inl rfl
      | some k => exact .inr (fun e' => (h.kinds hi k hh).2.2.1 e'.symm))
    exact k1.kept (grownBy_setCell _ _ _) (ownNe fun e' => by have := (h.kinds hi _ e').1; simp at this; omega)
  · rw [List.length_append]
    exact hown.kept (grownBy_setCell _ _ _) (ownNe fun e' => by simp [Value.ownBlock] at e'; omega)

/-- One more row of markets, known whole. -/
theorem Sit.more (h : Sit w0 w bO bM bS bA bP B0 n c d tch K V L pr hv H E) {b : Nat} {cs : Array Value} (hb : B0 ≤ b) (hc : w.heap[b]? = some (.cells cs 46 (0, 0))) :
    Sit w0 w bO bM bS bA bP B0 n c d tch K V L pr hv H ((b, cs) :: E) :=
  ⟨h.below, h.o1, h.o2, h.o3, h.o4, h.o5, h.o6, h.other, h.ms, h.stakes, h.acc, h.pres, h.mkt, h.own, h.kinj, h.vinj, h.hold, fun x hx => by
    rcases List.mem_cons.1 hx with rfl | hx
    · exact ⟨hb, hc⟩
    · exact h.ext x hx⟩
end
end Go.Proofs.Ybulkdiks
