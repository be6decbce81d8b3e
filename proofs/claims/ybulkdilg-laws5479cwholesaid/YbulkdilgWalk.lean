import Derived.Test.YbulkdilgLow
import Derived.Deep.AppendLies
import Derived.OwnWalk
namespace Go.Proofs.Ybulkdilg
open Go.RowKit
set_option linter.unusedVariables false
set_option linter.unusedSimpArgs false
set_option linter.unnecessarySimpa false

/-- A level's pointer, as a value. -/
def pt (b : Nat) : Value := .pointer (some ⟨b, 0, none⟩)
def pts (xs : List Nat) : List Value := xs.map pt
theorem pts_app (xs ys : List Nat) : pts (xs ++ ys) = pts xs ++ pts ys := by simp [pts]
theorem info29 : (Yba.prog.info? 29).map (fun i => (i.zero, i.size, i.bytes)) = some (some (.pointer none), 1, 8) := by kernel_rfl

/-- Below base nothing but the block ob has turned. -/
structure Near (base ob : Nat) (w w' : World) : Prop where
  os : w'.os = w.os
  tape : w'.tape = w.tape
  output : w'.output = w.output
  size : w.heap.size ≤ w'.heap.size
  block : ∀ k, k < base → k ≠ ob → w'.heap[k]? = w.heap[k]?
theorem Near.refl (base ob : Nat) (w : World) : Near base ob w w := ⟨rfl, rfl, rfl, Nat.le_refl _, fun _ _ _ => rfl⟩
theorem Near.trans {base ob : Nat} {a b c : World} (h : Near base ob a b) (k : Near base ob b c) : Near base ob a c :=
  ⟨k.os.trans h.os, k.tape.trans h.tape, k.output.trans h.output, Nat.le_trans h.size k.size, fun i h1 h2 => (k.block i h1 h2).trans (h.block i h1 h2)⟩
theorem Near.drewN {base ob : Nat} {a b : World} (h : Near base ob a b) (n : Nat) : Near base ob a (b.drewN n) := ⟨h.os, h.tape, h.output, h.size, h.block⟩

/-- The variable holds a slice of these levels, which is the call's own. -/
def Hold (base ob : Nat) (xs : List Nat) (w : World) : Prop := ∃ v, w.heap[ob]? = some (.cells #[v] 46 (0, 0)) ∧ w.ownsRow base 29 1 v xs.length (pts xs) ∧ base ≤ w.heap.size

theorem walk_nil (ob : Nat) (d : Int) (w : World) : Calls Yba.prog 11 #[.pointer none, .pointer (some ⟨ob, 0, none⟩), .int .i64 d] w fun e w' => e = .returned (.tuple #[.int .i8 0, .bool true]) ∧ w' = w := by
  go_enter Yba.func11, Yba.ntmps11
  go_wp2
  go_ret2
  exact ⟨rfl, rfl⟩

set_option maxHeartbeats 1000000 in
theorem walk_node (base ob b : Nat) (xl xr : Option Addr) (hl hr : Nat) (d : Nat) (xs : List Nat) (w : World) (Z1 Z3 : World → Prop) (hd : d ≤ 64) (hlb : hl ≤ 60) (hrb : hr ≤ 60) (h1 : hl ≤ hr + 1) (h2 : hr ≤ hl + 1)
    (hlen : xs.length ≤ 5000) (hbo : ¬ b = ob)
    (c8 : w.cell? ⟨b, 8, none⟩ = some (.pointer xl))
    (C1 : Hid (Calls Yba.prog 11 #[.pointer xl, .pointer (some ⟨ob, 0, none⟩), .int .i64 ((d : Int) + 1)] w fun e w' => e = .returned (.tuple #[.int .i8 hl, .bool true]) ∧ Z1 w'))
    (A : Hid (∀ w1, Z1 w1 → Hold base ob xs w1 ∧ w1.cell? ⟨b, 9, none⟩ = some (.pointer xr) ∧ b < base ∧ ob < base))
    (C2 : Hid (∀ w1 v g cap w2, Z1 w1 → w1.heap[ob]? = some (.cells #[v] 46 (0, 0)) → w2.ownsRow base 29 1 (.slice (some ⟨g, 0, none⟩) (xs.length + 1) cap) (xs.length + 1) (pts xs ++ [pt b]) → (w1.alloc (.cells #[pt b] 29)).grownBy w2 v.ownBlock → (∀ k, v.ownBlock = some k → base ≤ k) → base ≤ w1.heap.size →
      Calls Yba.prog 11 #[.pointer xr, .pointer (some ⟨ob, 0, none⟩), .int .i64 ((d : Int) + 1)] (w2.setCell ⟨ob, 0, none⟩ (.slice (some ⟨g, 0, none⟩) (xs.length + 1) cap)) fun e w' => e = .returned (.tuple #[.int .i8 hr, .bool true]) ∧ w'.cell? ⟨b, 10, none⟩ = some (.int .i8 ((1 + max hl hr : Nat) : Int)) ∧ Z3 w')) :
    Calls Yba.prog 11 #[.pointer (some ⟨b, 0, none⟩), .pointer (some ⟨ob, 0, none⟩), .int .i64 d] w fun e w' => e = .returned (.tuple #[.int .i8 ((1 + max hl hr : Nat) : Int), .bool true]) ∧ Z3 w' := by
  obtain ⟨i0, hi0, hz0, hz1, hz2⟩ := info_parts info29
  go_enter Yba.func11, Yba.ntmps11
  go_wp2_with fail
  refine C1.out.mono ?_
  rintro e w1 ⟨rfl, hz⟩
  obtain ⟨⟨v, hb1, ho1, hs1⟩, c9, hbb, hobb⟩ := A.out w1 hz
  have hbs : ∀ k, v.ownBlock = some k → base ≤ k := fun k hk => (ho1.lt k hk).1
  have hobk : v.ownBlock ≠ some ob := fun e => by have := hbs ob e; omega
  have cob : w1.cell? ⟨ob, 0, none⟩ = some v := by simp [World.cell?, hb1]
  have fob : w1.frozen? ⟨ob, 0, none⟩ = false := by simp [World.frozen?, hb1]
  have hob1 : ob < w1.heap.size := by omega
  have hA := hid (And.intro ho1 (And.intro hb1 (And.intro hbs hs1)))
  clear c8 C1 A ho1 hb1 hbs hs1
  go_wp2_with (at_builtin; refine wpList_append_lies _ rfl (.tmp 34) (.tmp 36) 46 rfl base 29 i0 (.pointer none) 1 8 Yba.underlying46 hi0 hz0 hz1 hz2 rfl (by decide) v xs.length (pts xs) rfl (hA.out.1.alloc _) ⟨w1.heap.size, 0, none⟩ 1 1 [.pointer (some ⟨b, 0, none⟩)] rfl rfl (cell_one_new _ _ _) (by simp [Value.oneCell']) (by decide) (by unfold maxLen; omega) (by omega) (by simp; have := hA.out.2.2.2; omega) (w1.heap.size + 1) (by simp) ?_)
  intro g cap w2 hown hgrow hat hlt
  have q1 : w2.cell? ⟨ob, 0, none⟩ = some v := (hgrow.cell_far ⟨ob, 0, none⟩ (by simp; omega) (fun e => hobk e.symm)).trans ((World.cell?_alloc_past _ ob 0 hob1).trans cob)
  have q2 : w2.frozen? ⟨ob, 0, none⟩ = false := (hgrow.frozen_far ⟨ob, 0, none⟩ (by simp; omega) (fun e => hobk e.symm)).trans ((World.frozen?_alloc_past _ ob 0 hob1).trans fob)
  have q3 : b < w1.heap.size := by have := hA.out.2.2.2; omega
  have q5 : v.ownBlock ≠ some b := fun e => by have := hA.out.2.2.1 b e; omega
  have q4 : w2.cell? ⟨b, 9, none⟩ = some (.pointer xr) := (hgrow.cell_far ⟨b, 9, none⟩ (by simp; omega) (fun e => q5 e.symm)).trans ((World.cell?_alloc_past _ b 9 q3).trans c9)
  have hC := hid (C2.out w1 v g cap w2 hz hA.out.2.1 hown hgrow hA.out.2.2.1 hA.out.2.2.2)
  have hmx : max (hl : Int) (hr : Int) = ((max hl hr : Nat) : Int) := by omega
  clear C2 hown hgrow hat hA cob fob c9
  go_wp2_with fail
  refine hC.out.mono ?_
  rintro e w3 ⟨rfl, c10, hz3⟩
  clear hC q1 q2 q4
  go_wp2
  all_goals first
    | (go_ret2; exact ⟨by simp; omega, hz3⟩)
    | omega

theorem walk_c (base ob : Nat) (hob : ob < base) (ds : List Nat) (M : Nat → Lv) (hds : ∀ b, b ∈ ds → b < base ∧ b ≠ ob) : ∀ (T : Tr) (w : World) (xs : List Nat) (d : Nat), Lvs w ds M → Rep M T → Bal T → (∀ b, b ∈ io T → b ∈ ds) →
    Hold base ob xs w → xs.length + (io T).length ≤ 5000 → d + ht T ≤ 64 → ht T ≤ 60 →
    Calls Yba.prog 11 #[.pointer (adr (root T)), .pointer (some ⟨ob, 0, none⟩), .int .i64 d] w fun e w' => e = .returned (.tuple #[.int .i8 (ht T), .bool true]) ∧ Hold base ob (xs ++ io T) w' ∧ Near base ob w w' := by
  intro T
  induction T with
  | nil =>
    intro w xs d h hr hb hs hh h1 h2 h3
    refine (walk_nil ob d w).mono ?_
    rintro e w' ⟨rfl, rfl⟩
    exact ⟨rfl, by simpa [io] using hh, Near.refl _ _ _⟩
  | node b o u L R ihL ihR =>
    intro w xs d h hr hb hs hh h1 h2 h3
    obtain ⟨rL, rR, rH, repL, repR⟩ := hr
    obtain ⟨balL, balR, bd1, bd2⟩ := hb
    have hbd : b ∈ ds := hs b (by simp [io])
    have sL : ∀ c, c ∈ io L → c ∈ ds := fun c hc => hs c (by simp [io, hc])
    have sR : ∀ c, c ∈ io R → c ∈ ds := fun c hc => hs c (by simp [io, hc])
    simp only [io, ht, List.length_append, List.length_cons] at h1 h2 h3
    have hLb := h b hbd
    obtain ⟨bb, bo⟩ := hds b hbd
    have lev : ∀ w', Near base ob w w' → Lvs w' ds M := fun w' hw c hc => (h c hc).of (hw.block c (hds c hc).1 (hds c hc).2)
    have key := walk_node base ob b (adr (root L)) (adr (root R)) (ht L) (ht R) d (xs ++ io L) w (fun w1 => Hold base ob (xs ++ io L) w1 ∧ Near base ob w w1) (fun w3 => Hold base ob (xs ++ io (.node b o u L R)) w3 ∧ Near base ob w w3)
      (by omega) (by omega) (by omega) bd1 bd2 (by rw [List.length_append]; omega) bo (by have := hLb.left; rw [rL] at this; exact this)
      (hid (by
        have := ihL w xs (d + 1) h repL balL sL hh (by omega) (by omega) (by omega)
        rw [show ((d : Int) + 1) = ((d + 1 : Nat) : Int) by omega]
        exact this))
      (hid (by
        rintro w1 ⟨k1, k2⟩
        refine ⟨k1, ?_, bb, hob⟩
        have := (lev w1 k2 b hbd).right
        rw [rR] at this
        exact this))
      (hid (by
        rintro w1 v g cap w2 ⟨k1, k2⟩ hv hown hgrow hvb hsz
        have hobk : some ob ≠ v.ownBlock := fun e => by have := hvb ob e.symm; omega
        have e1 : w2.heap[ob]? = some (.cells #[v] 46 (0, 0)) := (hgrow.block ob (by rw [← World.alloc_eq]; simp; omega) hobk).trans ((Below.heap_alloc _ _ _ (by omega)).trans hv)
        obtain ⟨_, _, _, hg0, hg1⟩ := hown.form (by omega)
        have gob : g ≠ ob := by
          have := hown.lt g rfl
          omega
        have n2 : Near base ob w (w2.setCell ⟨ob, 0, none⟩ (.slice (some ⟨g, 0, none⟩) ((xs ++ io L).length + 1) cap)) := by
          refine k2.trans ⟨hgrow.os, hgrow.tape, hgrow.output, ?_, ?_⟩
          · have := hgrow.size
            rw [← World.alloc_eq] at this
            simp [World.setCell] at this ⊢
            omega
          · intro k hk hne
            rw [Below.heap_setCell _ _ _ _ hne]
            refine (hgrow.block k (by rw [← World.alloc_eq]; simp; omega) (fun e => by have := hvb k e.symm; omega)).trans (Below.heap_alloc _ _ _ (by omega))
        have hold2 : Hold base ob (xs ++ io L ++ [b]) (w2.setCell ⟨ob, 0, none⟩ (.slice (some ⟨g, 0, none⟩) ((xs ++ io L).length + 1) cap)) := by
          refine ⟨.slice (some ⟨g, 0, none⟩) ((xs ++ io L).length + 1) cap, ?_, ?_, ?_⟩
          · simp [World.setCell, Array.getElem?_modify, e1]
          · rw [show (xs ++ io L ++ [b]).length = (xs ++ io L).length + 1 from by simp; omega, pts_app (xs ++ io L) [b]]
            have hgr : w2.grownBy (w2.setCell ⟨ob, 0, none⟩ (.slice (some ⟨g, 0, none⟩) ((xs ++ io L).length + 1) cap)) (some ob) := ⟨rfl, rfl, rfl, by simp [World.setCell], fun k _ hk => Below.heap_setCell _ _ _ _ (fun e => hk (congrArg some e))⟩
            exact hown.kept hgr (.inr (fun e => gob (Option.some.inj e)))
          · have := n2.size
            have := hh.choose_spec.2.2
            omega
        refine (ihR _ (xs ++ io L ++ [b]) (d + 1) (lev _ n2) repR balR sR hold2 (by simp; omega) (by omega) (by omega)).mono ?_
        rintro e w3 ⟨rfl, k3, k4⟩
        refine ⟨rfl, ?_, ?_, n2.trans k4⟩
        · have := (lev w3 (n2.trans k4) b hbd).height
          rw [rH] at this
          exact this
        · simpa [io] using k3))
    exact key
end Go.Proofs.Ybulkdilg
