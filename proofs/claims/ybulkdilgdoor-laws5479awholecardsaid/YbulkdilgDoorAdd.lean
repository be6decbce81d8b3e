import Derived.Test.YbulkdilgDoorAcc
import Derived.Test.YbulkdilgDoorEnt
import Derived.Test.YbulkdilgDoorTot
import Derived.Deep.RegionHeld3
import Derived.Deep.DeepCutAuto
namespace Go.Proofs.YbulkdilgDoor
open Go.RowKit
set_option maxRecDepth 100000
set_option linter.unusedVariables false
set_option linter.unusedSimpArgs false
set_option linter.unnecessarySimpa false

theorem totalOf_b (a : Int) (ha : 0 ≤ a) (h63 : a < 9223372036854775808) (w : World) : Calls Ybad.prog 11 #[.int .i64 a] w fun e w' => e = .returned (.agg #[.int .u64 0, .int .u64 a]) ∧ Below w.heap.size w w' := by
  refine (totalOf_c a ha h63 w).mono ?_
  rintro e w' ⟨rfl, c, rfl⟩
  exact ⟨rfl, (Below.refl _ w).alloc (Nat.le_refl _) _⟩
theorem below3 (w : World) (a b c : Obj) : Below w.heap.size w (((w.alloc a).alloc b).alloc c) :=
  (((Below.refl _ w).alloc (Nat.le_refl _) _).alloc (by rw [← World.alloc_eq]; simp) _).alloc (by rw [← World.alloc_eq, ← World.alloc_eq]; simp; omega) _
theorem plus_b (l q : Int) (hl : 0 ≤ l) (hq : 0 ≤ q) (hs : l + q < 18446744073709551616) (w : World) : Calls Ybad.prog 10 #[.agg #[.int .u64 0, .int .u64 l], .agg #[.int .u64 0, .int .u64 q]] w fun e w' => e = .returned (.agg #[.int .u64 0, .int .u64 (l + q)]) ∧ Below w.heap.size w w' := by
  refine (plus_c l q hl hq hs w).mono ?_
  rintro e w' ⟨rfl, c1, c2, c3, rfl⟩
  exact ⟨rfl, below3 _ _ _ _⟩
theorem minus_b (l q : Int) (hq : 0 ≤ q) (hs : q ≤ l) (hl : l < 18446744073709551616) (w : World) : Calls Ybad.prog 12 #[.agg #[.int .u64 0, .int .u64 l], .agg #[.int .u64 0, .int .u64 q]] w fun e w' => e = .returned (.agg #[.int .u64 0, .int .u64 (l - q)]) ∧ Below w.heap.size w w' := by
  refine (minus_c l q hq hs hl w).mono ?_
  rintro e w' ⟨rfl, c1, c2, c3, rfl⟩
  exact ⟨rfl, below3 _ _ _ _⟩

theorem below4 (B : Nat) (w : World) (a b c d : Obj) (hB : B ≤ w.heap.size) : Below B w ((((w.alloc a).alloc b).alloc c).alloc d).drew.drew := by
  have h := ((((Below.refl B w).alloc hB a).alloc (by rw [← World.alloc_eq]; simp; omega) b).alloc (by rw [← World.alloc_eq, ← World.alloc_eq]; simp; omega) c).alloc (by rw [← World.alloc_eq, ← World.alloc_eq, ← World.alloc_eq]; simp; omega) d
  exact ⟨h.os, h.tape, h.output, h.size, h.block⟩

set_option maxHeartbeats 2000000 in
theorem add_old (sb eb kb cb xi xt i t l : Nat) (p q lo od : Int) (v7 v8 : Value) (w : World) (hxt : t * 14 = xt) (ht : t < 1024) (hi : i < 1024)
    (x1 : w.cell? ⟨cb, xi + 1, none⟩ = some (.int .i64 p)) (x3 : w.cell? ⟨cb, xi + 3, none⟩ = some (.int .i64 q)) (x6 : w.cell? ⟨cb, xi + 6, none⟩ = some (.int .u32 ((i : Int) + 1))) (x7 : w.cell? ⟨cb, xi + 7, none⟩ = some v7) (x8 : w.cell? ⟨cb, xt + 8, none⟩ = some v8)
    (fx : ∀ k, w.frozen? ⟨cb, k, none⟩ = false) (fl : ∀ k, w.frozen? ⟨l, k, none⟩ = false)
    (l0 : w.cell? ⟨l, 0, none⟩ = some (.int .i64 p)) (l1 : w.cell? ⟨l, 1, none⟩ = some (.int .u64 0)) (l2 : w.cell? ⟨l, 2, none⟩ = some (.int .u64 lo)) (l3 : w.cell? ⟨l, 3, none⟩ = some (.int .i64 od)) (l5 : w.cell? ⟨l, 5, none⟩ = some (.int .u32 ((t : Int) + 1)))
    (s3 : w.cell? ⟨sb, 3, none⟩ = some (.pointer (some ⟨eb, 0, none⟩))) (e0 : w.cell? ⟨eb, 0, none⟩ = some (.slice (some ⟨kb, 0, none⟩) 1 1)) (k0 : w.cell? ⟨kb, 0, none⟩ = some (.slice (some ⟨cb, 0, none⟩) 1024 1024))
    (d1 : ¬ l = cb) (d2 : ¬ cb = l) (d3 : ¬ sb = l) (d4 : ¬ sb = cb) (d5 : ¬ eb = l) (d6 : ¬ eb = cb) (d7 : ¬ kb = l) (d8 : ¬ kb = cb) (o1 : ¬ xi + 6 = xt + 8) (o2 : ¬ xi + 3 = xt + 8) (o3 : ¬ xt + 8 = xi + 7)
    (hl : l < w.heap.size) (hcb : cb < w.heap.size)
    (q0 : 0 ≤ q) (q1 : q < 9223372036854775808) (lo0 : 0 ≤ lo) (hlo : lo + q < 18446744073709551616) (od0 : 0 ≤ od) (od1 : od < 1000000)
    (C8 : Hid (Calls Ybad.prog 8 #[.pointer (some ⟨sb, 0, none⟩), .int .i64 p] w fun e w' => e = .returned (.pointer (some ⟨l, 0, none⟩)) ∧ ∃ q, w' = w.drewN q)) :
    Calls Ybad.prog 5 #[.pointer (some ⟨sb, 0, none⟩), .pointer (some ⟨cb, xi, none⟩)] w fun e w' => e = .returned (.tuple #[]) ∧ ∃ n wx, Below w.heap.size ((((((w.drewN n).setCell ⟨cb, xi + 7, none⟩ (.int .u32 ((t : Int) + 1))).setCell ⟨cb, xt + 8, none⟩ (.int .u32 ((i : Int) + 1))).setCell ⟨l, 5, none⟩ (.int .u32 ((i : Int) + 1))).setCell ⟨l, 1, none⟩ (.int .u64 0)).setCell ⟨l, 2, none⟩ (.int .u64 (lo + q))) wx ∧ w' = wx.setCell ⟨l, 3, none⟩ (.int .i64 (od + 1)) := by
  have hlk : ∀ k, l < w.heap.size + k := fun k => by omega
  have hck : ∀ k, cb < w.heap.size + k := fun k => by omega
  go_enter Ybad.func5, Ybad.ntmps5
  go_wp2_with fail
  refine C8.out.mono ?_
  rintro e w1 ⟨rfl, n, rfl⟩
  clear C8
  go_wp2_with fail
  go_quiet (fail)
  go_wp2_with fail
  go_region_held3 (fun w' => w'.cell? ⟨sb, 3, none⟩ = some (.pointer (some ⟨eb, 0, none⟩)) ∧ w'.cell? ⟨l, 5, none⟩ = some (.int .u32 ((t : Int) + 1)) ∧ w'.cell? ⟨cb, xi + 6, none⟩ = some (.int .u32 ((i : Int) + 1)) ∧ w'.cell? ⟨eb, 0, none⟩ = some (.slice (some ⟨kb, 0, none⟩) 1 1) ∧ w'.cell? ⟨kb, 0, none⟩ = some (.slice (some ⟨cb, 0, none⟩) 1024 1024)) (simp [go_sem, *])
    (first | (go_at_call 4; refine (at_c eb kb cb t _ ht ?_ ?_).mono ?_; (simp [*]); (simp [*]); rintro e w' ⟨rfl, rfl⟩))
  go_wp2_with fail
  go_cut [82] (fun _ wx => ∃ n, Below w.heap.size ((((((w.drewN n).setCell ⟨cb, xi + 7, none⟩ (.int .u32 ((t : Int) + 1))).setCell ⟨cb, xt + 8, none⟩ (.int .u32 ((i : Int) + 1))).setCell ⟨l, 5, none⟩ (.int .u32 ((i : Int) + 1))).setCell ⟨l, 1, none⟩ (.int .u64 0)).setCell ⟨l, 2, none⟩ (.int .u64 (lo + q))) wx)
  case first =>
    go_region_with
      (first
        | (go_at_call 11; refine (totalOf_c q q0 q1 _).mono ?_; rintro e w' ⟨rfl, c, rfl⟩)
        | (go_at_call 10; refine (plus_c lo q lo0 q0 hlo _).mono ?_; rintro e w' ⟨rfl, c1, c2, c3, rfl⟩))
    all_goals
      go_wp2_with fail
      go_meet
      exact ⟨n + nq, below4 _ _ _ _ _ _ (by simp [World.setCell])⟩
  case rest =>
    obtain ⟨n2, hB⟩ := hcut
    have b3 : wc.cell? ⟨l, 3, none⟩ = some (.int .i64 od) := by
      rw [hB.cell (p := ⟨l, 3, none⟩) hl]
      simp [go_sem, *]
    have bf : wc.frozen? ⟨l, 3, none⟩ = false := by
      rw [hB.frozen (p := ⟨l, 3, none⟩) hl]
      simp [go_sem, *]
    have hBB := hid hB
    clear hB x1 x3 x6 x7 x8 l0 l1 l2 l3 l5 s3 e0 k0 fx fl
    go_wp2
    go_end0
    exact ⟨rfl, n2, _, hBB.out, rfl⟩
end Go.Proofs.YbulkdilgDoor
