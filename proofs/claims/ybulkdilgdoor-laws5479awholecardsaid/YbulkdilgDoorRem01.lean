import Derived.Test.YbulkdilgDoorAcc
import Derived.Test.YbulkdilgDoorEnt
import Derived.Test.YbulkdilgDoorTot
import Derived.Deep.RegionHeld3
import Derived.Deep.DeepCutAuto
namespace Go.Proofs.YbulkdilgDoor
open Go.RowKit
set_option maxRecDepth 100000
set_option linter.unusedVariables false
set_option linter.unusedSimpArgs false
set_option linter.unnecessarySimpa false

theorem below4r2 (B : Nat) (w : World) (a b c d : Obj) (hB : B ≤ w.heap.size) : Below B w ((((w.alloc a).alloc b).alloc c).alloc d).drew.drew := by
  have h := ((((Below.refl B w).alloc hB a).alloc (by rw [← World.alloc_eq]; simp; omega) b).alloc (by rw [← World.alloc_eq, ← World.alloc_eq]; simp; omega) c).alloc (by rw [← World.alloc_eq, ← World.alloc_eq, ← World.alloc_eq]; simp; omega) d
  exact ⟨h.os, h.tape, h.output, h.size, h.block⟩

set_option maxHeartbeats 4000000 in
theorem rem_ny (sb eb kb cb xi l : Nat) (b xb : Nat) (vb : Value) (p q lo od : Int) (hd : Int) (v5 v13 : Value) (w : World) (hxb : b * 14 = xb) (hbt : b < 1024) (xb7 : w.cell? ⟨cb, xb + 7, none⟩ = some vb) (ob1 : ¬ xi + 7 = xb + 7) (ob2 : ¬ xi + 8 = xb + 7) (ob3 : ¬ xi + 3 = xb + 7) (ob4 : ¬ xi + 13 = xb + 7)
    (x1 : w.cell? ⟨cb, xi + 1, none⟩ = some (.int .i64 p)) (x3 : w.cell? ⟨cb, xi + 3, none⟩ = some (.int .i64 q)) (x7 : w.cell? ⟨cb, xi + 7, none⟩ = some (.int .u32 0)) (x8 : w.cell? ⟨cb, xi + 8, none⟩ = some (.int .u32 ((b : Int) + 1))) (x13 : w.cell? ⟨cb, xi + 13, none⟩ = some v13)
    (fx : ∀ k, w.frozen? ⟨cb, k, none⟩ = false) (fl : ∀ k, w.frozen? ⟨l, k, none⟩ = false)
    (l1 : w.cell? ⟨l, 1, none⟩ = some (.int .u64 0)) (l2 : w.cell? ⟨l, 2, none⟩ = some (.int .u64 lo)) (l3 : w.cell? ⟨l, 3, none⟩ = some (.int .i64 od)) (l4 : w.cell? ⟨l, 4, none⟩ = some (.int .u32 hd)) (l5 : w.cell? ⟨l, 5, none⟩ = some v5)
    (s3 : w.cell? ⟨sb, 3, none⟩ = some (.pointer (some ⟨eb, 0, none⟩))) (e0 : w.cell? ⟨eb, 0, none⟩ = some (.slice (some ⟨kb, 0, none⟩) 1 1)) (k0 : w.cell? ⟨kb, 0, none⟩ = some (.slice (some ⟨cb, 0, none⟩) 1024 1024))
    (d1 : ¬ l = cb) (d2 : ¬ cb = l) (d3 : ¬ sb = l) (d4 : ¬ sb = cb) (d5 : ¬ eb = l) (d6 : ¬ eb = cb) (d7 : ¬ kb = l) (d8 : ¬ kb = cb)
    (hl : l < w.heap.size) (hcb : cb < w.heap.size)
    (q0 : 0 ≤ q) (q1 : q < 9223372036854775808) (hlo : q ≤ lo) (lo1 : lo < 18446744073709551616) (od0 : 0 < od) (od1 : od < 1000000)
    (C8 : Hid (Calls Ybad.prog 8 #[.pointer (some ⟨sb, 0, none⟩), .int .i64 p] w fun e w' => e = .returned (.pointer (some ⟨l, 0, none⟩)) ∧ ∃ q, w' = w.drewN q)) :
    Calls Ybad.prog 6 #[.pointer (some ⟨sb, 0, none⟩), .pointer (some ⟨cb, xi, none⟩)] w fun e w' => e = .returned (.tuple #[]) ∧ ∃ n wx, Below w.heap.size (((((w.drewN n).setCell ⟨l, 4, none⟩ (.int .u32 ((b : Int) + 1))).setCell ⟨cb, xb + 7, none⟩ (.int .u32 0)).setCell ⟨l, 1, none⟩ (.int .u64 0)).setCell ⟨l, 2, none⟩ (.int .u64 (lo - q))) wx ∧ w' = ((((wx.setCell ⟨l, 3, none⟩ (.int .i64 (od - 1))).setCell ⟨cb, xi + 7, none⟩ (.int .u32 0)).setCell ⟨cb, xi + 8, none⟩ (.int .u32 0)).setCell ⟨cb, xi + 13, none⟩ (.bool true)) := by
  have hlk : ∀ k, l < w.heap.size + k := fun k => by omega
  have hck : ∀ k, cb < w.heap.size + k := fun k => by omega
  go_enter Ybad.func6, Ybad.ntmps6
  go_wp2_with fail
  refine C8.out.mono ?_
  rintro e w1 ⟨rfl, n, rfl⟩
  clear C8
  go_wp2_with fail
  go_region_held3 (fun w' => w'.cell? ⟨sb, 3, none⟩ = some (.pointer (some ⟨eb, 0, none⟩)) ∧ w'.cell? ⟨cb, xi + 7, none⟩ = some (.int .u32 0) ∧ w'.cell? ⟨cb, xi + 8, none⟩ = some (.int .u32 ((b : Int) + 1)) ∧ w'.cell? ⟨eb, 0, none⟩ = some (.slice (some ⟨kb, 0, none⟩) 1 1) ∧ w'.cell? ⟨kb, 0, none⟩ = some (.slice (some ⟨cb, 0, none⟩) 1024 1024)) (simp [go_sem, *])
    (first | (go_at_call 4; refine (at_c eb kb cb b _ hbt ?_ ?_).mono ?_; (simp [*]); (simp [*]); rintro e w' ⟨rfl, rfl⟩))
  go_wp2_with fail
  go_cut [75] (fun _ wx => ∃ n, Below w.heap.size (((((w.drewN n).setCell ⟨l, 4, none⟩ (.int .u32 ((b : Int) + 1))).setCell ⟨cb, xb + 7, none⟩ (.int .u32 0)).setCell ⟨l, 1, none⟩ (.int .u64 0)).setCell ⟨l, 2, none⟩ (.int .u64 (lo - q))) wx)
  case first =>
    go_region_with
      (first
        | (go_at_call 11; refine (totalOf_c q q0 q1 _).mono ?_; rintro e w' ⟨rfl, c, rfl⟩)
        | (go_at_call 12; refine (minus_c lo q q0 hlo lo1 _).mono ?_; rintro e w' ⟨rfl, c1, c2, c3, rfl⟩))
    all_goals
      go_wp2_with fail
      go_meet
      exact ⟨n, below4r2 _ _ _ _ _ _ (by simp [World.setCell])⟩
  case rest =>
    obtain ⟨n2, hB⟩ := hcut
    have b3 : wc.cell? ⟨l, 3, none⟩ = some (.int .i64 od) := by
      rw [hB.cell (p := ⟨l, 3, none⟩) hl]
      simp [go_sem, *]
    have b4 : wc.cell? ⟨l, 4, none⟩ = some (.int .u32 ((b : Int) + 1)) := by
      rw [hB.cell (p := ⟨l, 4, none⟩) hl]
      simp [go_sem, *]
    have b7 : wc.cell? ⟨cb, xi + 7, none⟩ = some (.int .u32 0) := by
      rw [hB.cell (p := ⟨cb, xi + 7, none⟩) hcb]
      simp [go_sem, *]
    have b8 : wc.cell? ⟨cb, xi + 8, none⟩ = some (.int .u32 ((b : Int) + 1)) := by
      rw [hB.cell (p := ⟨cb, xi + 8, none⟩) hcb]
      simp [go_sem, *]
    have b13 : wc.cell? ⟨cb, xi + 13, none⟩ = some v13 := by
      rw [hB.cell (p := ⟨cb, xi + 13, none⟩) hcb]
      simp [go_sem, *]
    have bf : ∀ k, wc.frozen? ⟨l, k, none⟩ = false := fun k => by
      rw [hB.frozen (p := ⟨l, k, none⟩) hl]
      simp [go_sem, *]
    have bg : ∀ k, wc.frozen? ⟨cb, k, none⟩ = false := fun k => by
      rw [hB.frozen (p := ⟨cb, k, none⟩) hcb]
      simp [go_sem, *]
    have hBB := hid hB
    clear hB x1 x3 x7 x8 x13 l1 l2 l3 l4 l5 s3 e0 k0 fx fl
    go_wp2
    go_end0
    exact ⟨rfl, n2, _, hBB.out, rfl⟩
end Go.Proofs.YbulkdilgDoor
