import Derived.Test.YbulkdilgDoorLow
import Derived.Deep.AppendLies
import Derived.OwnWalk
namespace Go.Proofs.YbulkdilgDoor
open Go.RowKit
set_option maxRecDepth 100000
set_option linter.unusedVariables false
set_option linter.unusedSimpArgs false
set_option linter.unnecessarySimpa false

/-- A level's pointer, as a value. -/
def pt (b : Nat) : Value := .pointer (some ⟨b, 0, none⟩)
def pts (xs : List Nat) : List Value := xs.map pt
theorem pts_app (xs ys : List Nat) : pts (xs ++ ys) = pts xs ++ pts ys := by simp [pts]
theorem info34 : (Ybad.prog.info? 34).map (fun i => (i.zero, i.size, i.bytes)) = some (some (.pointer none), 1, 8) := by kernel_rfl
theorem below_grown {base : Nat} {w w' : World} {v : Value} (hg : w.grownBy w' v.ownBlock) (hv : ∀ k, v.ownBlock = some k → base ≤ k) (hb : base ≤ w.heap.size) : Below base w w' :=
  ⟨hg.os, hg.tape, hg.output, hg.size, fun k hk => hg.block k (by omega) (fun e => by have := hv k e.symm; omega)⟩
theorem own_form {w : World} {base : Nat} {e : TypeId} {v : Value} {n : Nat} {xs : List Value} (h : w.ownsRow base e 1 v n xs) : ∃ va vc, v = .slice va n vc := by
  obtain ⟨_, ⟨rfl, rfl⟩ | ⟨g, cap, cur, rfl, _⟩⟩ := h
  · exact ⟨_, _, rfl⟩
  · exact ⟨_, _, rfl⟩

theorem walk_nil (v : Value) (lm d : Int) (w : World) : Calls Ybad.prog 16 #[.pointer none, v, .int .i64 lm, .int .i64 d] w fun e w' => e = .returned (.tuple #[v, .int .i8 0, .bool true]) ∧ w' = w := by
  go_enter Ybad.func16, Ybad.ntmps16
  go_wp2
  go_ret3
  exact ⟨rfl, rfl⟩

set_option maxHeartbeats 2000000 in
theorem walk_node (base b : Nat) (xl xr : Option Addr) (hl hr : Nat) (d lm : Nat) (xs ys : List Nat) (v : Value) (w : World) (hlm : lm ≤ 5000) (hd : d ≤ lm + 1) (hlb : hl ≤ 60) (hrb : hr ≤ 60) (h1 : hl ≤ hr + 1) (h2 : hr ≤ hl + 1)
    (hlen : xs.length < lm) (c8 : w.cell? ⟨b, 8, none⟩ = some (.pointer xl)) (hbb : b < base) (hbs : base ≤ w.heap.size) (Z : Value → World → Prop)
    (C1 : Hid (Calls Ybad.prog 16 #[.pointer xl, v, .int .i64 lm, .int .i64 ((d : Int) + 1)] w fun e w' => ∃ va vc, e = .returned (.tuple #[.slice va xs.length vc, .int .i8 hl, .bool true]) ∧ w'.ownsRow base 34 1 (.slice va xs.length vc) xs.length (pts xs) ∧ Below base w w' ∧ w'.cell? ⟨b, 9, none⟩ = some (.pointer xr)))
    (C2 : Hid (∀ g cap w2, w2.ownsRow base 34 1 (.slice (some ⟨g, 0, none⟩) (xs.length + 1) cap) (xs.length + 1) (pts xs ++ [pt b]) → Below base w w2 →
      Calls Ybad.prog 16 #[.pointer xr, .slice (some ⟨g, 0, none⟩) (xs.length + 1) cap, .int .i64 lm, .int .i64 ((d : Int) + 1)] w2 fun e w' => ∃ v', e = .returned (.tuple #[v', .int .i8 hr, .bool true]) ∧ w'.cell? ⟨b, 10, none⟩ = some (.int .i8 ((1 + max hl hr : Nat) : Int)) ∧ Z v' w'))
    (hcr : Hid (∀ w2, Below base w w2 → w2.cell? ⟨b, 9, none⟩ = some (.pointer xr))) :
    Calls Ybad.prog 16 #[.pointer (some ⟨b, 0, none⟩), v, .int .i64 lm, .int .i64 d] w fun e w' => ∃ v', e = .returned (.tuple #[v', .int .i8 ((1 + max hl hr : Nat) : Int), .bool true]) ∧ Z v' w' := by
  obtain ⟨i0, hi0, hz0, hz1, hz2⟩ := info_parts info34
  go_enter Ybad.func16, Ybad.ntmps16
  go_wp2_with fail
  refine C1.out.mono ?_
  rintro e w1 ⟨va, vc, rfl, ho1, hb1, c9⟩
  have hs1 : base ≤ w1.heap.size := Nat.le_trans hbs hb1.size
  have hA := hid (And.intro ho1 hb1)
  clear c8 C1 ho1 hb1
  go_wp2_with (at_builtin; refine wpList_append_lies _ rfl (.tmp 46) (.tmp 48) 63 rfl base 34 i0 (.pointer none) 1 8 Ybad.underlying63 hi0 hz0 hz1 hz2 rfl (by decide) (.slice va xs.length vc) xs.length (pts xs) rfl (hA.out.1.alloc _) ⟨w1.heap.size, 0, none⟩ 1 1 [.pointer (some ⟨b, 0, none⟩)] rfl rfl (cell_one_new _ _ _) (by simp [Value.oneCell']) (by decide) (by unfold maxLen; omega) (by omega) (by simp; omega) (w1.heap.size + 1) (by simp) ?_)
  intro g cap w2 hown hgrow hat hlt
  have hb2 : Below base w w2 := (hA.out.2.alloc hs1 _).trans (below_grown hgrow (fun k hk => (hA.out.1.lt k hk).1) (by rw [← World.alloc_eq]; simp; omega))
  have q4 := hcr.out w2 hb2
  have hC := hid (C2.out g cap w2 hown hb2)
  have hmx : max (hl : Int) (hr : Int) = ((max hl hr : Nat) : Int) := by omega
  clear C2 hown hgrow hat hA c9 hcr hb2
  go_wp2_with fail
  refine hC.out.mono ?_
  rintro e w3 ⟨v', rfl, c10, hz3⟩
  clear hC q4
  go_wp2
  all_goals first
    | (go_ret3; exact ⟨v', by simp; omega, hz3⟩)
    | omega

theorem walk_c (base : Nat) (ds : List Nat) (M : Nat → Lv) (hds : ∀ b, b ∈ ds → b < base) (lm : Nat) (hlm : lm ≤ 5000) : ∀ (T : Tr) (w : World) (xs : List Nat) (v : Value) (d : Nat), Lvs w ds M → Rep M T → Bal T → (∀ b, b ∈ io T → b ∈ ds) →
    w.ownsRow base 34 1 v xs.length (pts xs) → base ≤ w.heap.size → xs.length + (io T).length ≤ lm → d + ht T ≤ lm + 1 → ht T ≤ 60 →
    Calls Ybad.prog 16 #[.pointer (adr (root T)), v, .int .i64 lm, .int .i64 d] w fun e w' => ∃ v', e = .returned (.tuple #[v', .int .i8 (ht T), .bool true]) ∧ w'.ownsRow base 34 1 v' (xs ++ io T).length (pts (xs ++ io T)) ∧ Below base w w' := by
  intro T
  induction T with
  | nil =>
    intro w xs v d h hr hb hs hh hbs h1 h2 h3
    refine (walk_nil v lm d w).mono ?_
    rintro e w' ⟨rfl, rfl⟩
    exact ⟨v, rfl, by simpa [io] using hh, Below.refl _ _⟩
  | node b o u L R ihL ihR =>
    intro w xs v d h hr hb hs hh hbs h1 h2 h3
    obtain ⟨rL, rR, rH, repL, repR⟩ := hr
    obtain ⟨balL, balR, bd1, bd2⟩ := hb
    have hbd : b ∈ ds := hs b (by simp [io])
    have sL : ∀ c, c ∈ io L → c ∈ ds := fun c hc => hs c (by simp [io, hc])
    have sR : ∀ c, c ∈ io R → c ∈ ds := fun c hc => hs c (by simp [io, hc])
    simp only [io, ht, List.length_append, List.length_cons] at h1 h2 h3
    have hLb := h b hbd
    have lev : ∀ w', Below base w w' → Lvs w' ds M := fun w' hw c hc => (h c hc).of (hw.block c (hds c hc))
    have key := walk_node base b (adr (root L)) (adr (root R)) (ht L) (ht R) d lm (xs ++ io L) (io R) v w hlm (by omega) (by omega) (by omega) bd1 bd2 (by rw [List.length_append]; omega) (by have := hLb.left; rw [rL] at this; exact this) (hds b hbd) hbs
      (fun v' w' => w'.ownsRow base 34 1 v' (xs ++ io (.node b o u L R)).length (pts (xs ++ io (.node b o u L R))) ∧ Below base w w')
      (hid (by
        have := ihL w xs v (d + 1) h repL balL sL hh hbs (by omega) (by omega) (by omega)
        rw [show ((d : Int) + 1) = ((d + 1 : Nat) : Int) by omega]
        refine this.mono ?_
        rintro e w' ⟨v', rfl, k1, k2⟩
        obtain ⟨va, vc, rfl⟩ := own_form k1
        refine ⟨va, vc, rfl, k1, k2, ?_⟩
        have := (lev w' k2 b hbd).right
        rw [rR] at this
        exact this))
      (hid (by
        intro g cap w2 hown hb2
        have hown' : w2.ownsRow base 34 1 (.slice (some ⟨g, 0, none⟩) ((xs ++ io L).length + 1) cap) (xs ++ io L ++ [b]).length (pts (xs ++ io L ++ [b])) := by
          rw [show (xs ++ io L ++ [b]).length = (xs ++ io L).length + 1 from by simp; omega, pts_app (xs ++ io L) [b]]
          exact hown
        refine (ihR w2 (xs ++ io L ++ [b]) _ (d + 1) (lev w2 hb2) repR balR sR hown' (Nat.le_trans hbs hb2.size) (by simp; omega) (by omega) (by omega)).mono ?_
        rintro e w3 ⟨v', rfl, k3, k4⟩
        refine ⟨v', rfl, ?_, ?_, hb2.trans k4⟩
        · have := (lev w3 (hb2.trans k4) b hbd).height
          rw [rH] at this
          exact this
        · have e : xs ++ io (.node b o u L R) = xs ++ io L ++ [b] ++ io R := by simp [io]
          rw [e]; exact k3))
      (hid (fun w2 hb2 => by
        have := (lev w2 hb2 b hbd).right
        rw [rR] at this
        exact this))
    exact key
end Go.Proofs.YbulkdilgDoor
