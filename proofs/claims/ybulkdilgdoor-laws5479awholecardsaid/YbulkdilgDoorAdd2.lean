import Derived.Test.YbulkdilgDoorAcc
import Derived.Test.YbulkdilgDoorEnt
import Derived.Test.YbulkdilgDoorTot
import Derived.Deep.RegionHeld3
import Derived.Deep.DeepCutAuto
namespace Go.Proofs.YbulkdilgDoor
open Go.RowKit
set_option maxRecDepth 100000
set_option linter.unusedVariables false
set_option linter.unusedSimpArgs false
set_option linter.unnecessarySimpa false

theorem below4' (B : Nat) (w : World) (a b c d : Obj) (hB : B ≤ w.heap.size) : Below B w ((((w.alloc a).alloc b).alloc c).alloc d).drew := by
  have h := ((((Below.refl B w).alloc hB a).alloc (by rw [← World.alloc_eq]; simp; omega) b).alloc (by rw [← World.alloc_eq, ← World.alloc_eq]; simp; omega) c).alloc (by rw [← World.alloc_eq, ← World.alloc_eq, ← World.alloc_eq]; simp; omega) d
  exact ⟨h.os, h.tape, h.output, h.size, h.block⟩

set_option maxHeartbeats 2000000 in
theorem add_new (sb cb xi i l : Nat) (y : Option Nat) (p q : Int) (w : World) (Z : World → Prop) (hi : i < 1024)
    (x1 : w.cell? ⟨cb, xi + 1, none⟩ = some (.int .i64 p)) (d1 : ¬ l = cb) (d2 : ¬ cb = l) (q0 : 0 ≤ q) (q1 : q < 9223372036854775808)
    (hy : y = none ∨ ∃ b p', y = some b ∧ p' ≠ p ∧ w.cell? ⟨b, 0, none⟩ = some (.int .i64 p'))
    (C8 : Hid (Calls Ybad.prog 8 #[.pointer (some ⟨sb, 0, none⟩), .int .i64 p] w fun e w' => e = .returned (.pointer (adr y)) ∧ ∃ q, w' = w.drewN q))
    (C9 : Hid (∀ k, Calls Ybad.prog 9 #[.pointer (some ⟨sb, 0, none⟩), .int .i64 p, .pointer (adr y)] (w.drewN k) fun e w' => e = .returned (.pointer (some ⟨l, 0, none⟩)) ∧ Z w'))
    (A : Hid (∀ w2, Z w2 → (w2.cell? ⟨cb, xi + 3, none⟩ = some (.int .i64 q) ∧ w2.cell? ⟨cb, xi + 6, none⟩ = some (.int .u32 ((i : Int) + 1)) ∧ (∃ v, w2.cell? ⟨cb, xi + 7, none⟩ = some v) ∧ (∀ k, w2.frozen? ⟨cb, k, none⟩ = false) ∧ cb < w2.heap.size) ∧
      (w2.cell? ⟨l, 1, none⟩ = some (.int .u64 0) ∧ w2.cell? ⟨l, 2, none⟩ = some (.int .u64 0) ∧ w2.cell? ⟨l, 3, none⟩ = some (.int .i64 0) ∧ w2.cell? ⟨l, 4, none⟩ = some (.int .u32 0) ∧ w2.cell? ⟨l, 5, none⟩ = some (.int .u32 0) ∧ (∀ k, w2.frozen? ⟨l, k, none⟩ = false) ∧ l < w2.heap.size))) :
    Calls Ybad.prog 5 #[.pointer (some ⟨sb, 0, none⟩), .pointer (some ⟨cb, xi, none⟩)] w fun e w' => e = .returned (.tuple #[]) ∧ ∃ w2 wx, Z w2 ∧ Below w2.heap.size (((((w2.setCell ⟨cb, xi + 7, none⟩ (.int .u32 0)).setCell ⟨l, 4, none⟩ (.int .u32 ((i : Int) + 1))).setCell ⟨l, 5, none⟩ (.int .u32 ((i : Int) + 1))).setCell ⟨l, 1, none⟩ (.int .u64 0)).setCell ⟨l, 2, none⟩ (.int .u64 q)) wx ∧ w' = wx.setCell ⟨l, 3, none⟩ (.int .i64 1) := by
  go_enter Ybad.func5, Ybad.ntmps5
  go_wp2_with fail
  refine C8.out.mono ?_
  rintro e w1 ⟨rfl, n, rfl⟩
  clear C8
  go_wp2_with fail
  go_cut [23] (fun b wx => b = .bool true ∧ ∃ k, wx = w.drewN k)
  case first =>
    rcases hy with rfl | ⟨b, p', rfl, hp, hb⟩
    · rw [adr_none]
      go_quiet (fail)
      go_wp2_with fail
      go_meet
      exact ⟨rfl, n + nq, by simp⟩
    · rw [adr_some]
      have hpn : (p' != p) = true := by simpa using hp
      go_quiet (fail)
      go_wp2_with fail
      go_meet
      exact ⟨rfl, n + nq, by simp⟩
  case rest =>
    obtain ⟨rfl, k, rfl⟩ := hcut
    generalize hY : adr y = Y at *
    go_wp2_with fail
    refine (C9.out k).mono ?_
    rintro e w2 ⟨rfl, hz⟩
    obtain ⟨⟨x3, x6, ⟨v7, x7⟩, fx, hcb⟩, l1, l2, l3, l4, l5, fl, hl⟩ := A.out w2 hz
    have hZ := hid hz
    clear C9 A hz hy x1
    have hlk : ∀ k, l < w2.heap.size + k := fun k => by omega
    have hck : ∀ k, cb < w2.heap.size + k := fun k => by omega
    have q00 : (0 : Int) + q < 18446744073709551616 := by omega
    go_wp2_with fail
    go_cut [82] (fun _ wx => Below w2.heap.size (((((w2.setCell ⟨cb, xi + 7, none⟩ (.int .u32 0)).setCell ⟨l, 4, none⟩ (.int .u32 ((i : Int) + 1))).setCell ⟨l, 5, none⟩ (.int .u32 ((i : Int) + 1))).setCell ⟨l, 1, none⟩ (.int .u64 0)).setCell ⟨l, 2, none⟩ (.int .u64 q)) wx)
    case first =>
      have hpl : ∀ w, Calls Ybad.prog 10 #[.agg #[.int .u64 0, .int .u64 0], .agg #[.int .u64 0, .int .u64 q]] w fun e w' => e = .returned (.agg #[.int .u64 0, .int .u64 q]) ∧ ∃ c1 c2 c3, w' = ((w.alloc (.cells c1 53)).alloc (.cells c2 53)).alloc (.cells c3 53) := fun w => by
        have := plus_c 0 q (by omega) q0 q00 w
        rwa [Int.zero_add] at this
      go_region_with
        (first
          | (go_at_call 11; refine (totalOf_c q q0 q1 _).mono ?_; rintro e w' ⟨rfl, c, rfl⟩)
          | (go_at_call 10; refine (hpl _).mono ?_; rintro e w' ⟨rfl, c1, c2, c3, rfl⟩))
      all_goals
        go_wp2_with fail
        go_meet
        exact below4' _ _ _ _ _ _ (by simp [World.setCell])
    case rest =>
      have b3 : wc.cell? ⟨l, 3, none⟩ = some (.int .i64 0) := by
        rw [hcut.cell (p := ⟨l, 3, none⟩) hl]
        simp [go_sem, *]
      have bf : wc.frozen? ⟨l, 3, none⟩ = false := by
        rw [hcut.frozen (p := ⟨l, 3, none⟩) hl]
        simp [go_sem, *]
      have hBB := hid hcut
      clear hcut x3 x6 x7 l1 l2 l3 l4 l5 fx fl
      go_wp2
      go_end0
      exact ⟨rfl, w2, _, hZ.out, hBB.out, rfl⟩
end Go.Proofs.YbulkdilgDoor
