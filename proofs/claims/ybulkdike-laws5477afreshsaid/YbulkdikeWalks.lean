import Derived.Test.YbulkdikeRows
import Derived.WalkKit
import Derived.WalkSpells
import Derived.WalkSmall
import Derived.ProofKit
import Derived.Below
import Derived.Laws.LoneSync
import Derived.LaidEqlPtr
namespace Go.Proofs.Ybulkdike.walks
open Go.RowKit
set_option linter.unusedVariables false

theorem load64 (b o : Nat) (x : Int) (w : World) (h : w.cell? ⟨b, o, none⟩ = some (.int .i64 x)) :
    Calls Yba.prog 7 #[.pointer (some ⟨b, o, none⟩)] w fun e w' => e = .returned (.int .i64 x) ∧ w' = w := by
  have hld := run_call_load (P := Yba.prog) Yba.func14 (by kernel_rfl) (by kernel_rfl) (by kernel_rfl) .i64 (by kernel_rfl) h
  go_enter Yba.func7, Yba.ntmps7
  go_wp2
  go_ret
  exact ⟨rfl, rfl⟩

theorem store64 (b o : Nat) (y : Int) (u : Value) (w : World) (h : w.cell? ⟨b, o, none⟩ = some u) (hf : w.frozen? ⟨b, o, none⟩ = false) :
    Calls Yba.prog 8 #[.pointer (some ⟨b, o, none⟩), .int .i64 y] w fun e w' => e = .returned (.tuple #[]) ∧ w' = w.setCell ⟨b, o, none⟩ (.int .i64 y) := by
  have hst := run_call_store (P := Yba.prog) Yba.func15 (by kernel_rfl) (by kernel_rfl) (by kernel_rfl) (by kernel_rfl) (k := .i64) (y := y) h hf
  go_enter Yba.func8, Yba.ntmps8
  go_wp2
  go_end0
  exact ⟨rfl, rfl⟩

def semCells (n : Int) : Array Value := #[.int .i64 n, .int .i64 0, .pointer none, .pointer none, .pointer none, .int .i64 0]

theorem newSem (n : Int) (w : World) (h : 1 ≤ n) :
    Calls Yba.prog 6 #[.int .i64 n] w fun e w' => e = .returned (.pointer (some ⟨w.heap.size, 0, none⟩)) ∧ w' = w.alloc (.cells (semCells n) 41) := by
  go_enter Yba.func6, Yba.ntmps6
  go_wp2
  go_ret
  exact ⟨rfl, rfl⟩

theorem cell_new (w : World) (cs : Array Value) (t : TypeId) (i : Nat) (v : Value) (h : cs[i]? = some v) : (w.alloc (.cells cs t)).cell? ⟨w.heap.size, i, none⟩ = some v := by
  have e := heap_alloc_new w (.cells cs t)
  unfold World.cell?
  rw [e]
  exact h
theorem free_new (w : World) (cs : Array Value) (t : TypeId) (i : Nat) : (w.alloc (.cells cs t)).frozen? ⟨w.heap.size, i, none⟩ = false := by
  have e := heap_alloc_new w (.cells cs t)
  unfold World.frozen?
  rw [e]
  simp

theorem cell_other (w : World) (b o b' o' : Nat) (u : Value) (h : b ≠ b' ∨ o ≠ o') : (w.setCell ⟨b, o, none⟩ u).cell? ⟨b', o', none⟩ = w.cell? ⟨b', o', none⟩ := by
  refine World.cell?_setCell_other _ _ _ _ ?_
  intro e
  simp only [Addr.mk.injEq] at e
  omega

theorem newSem' (n : Int) (w : World) (h : 1 ≤ n) :
    Calls Yba.prog 6 #[.int .i64 n] w fun e w' => e = .returned (.pointer (some ⟨w.heap.size, 0, none⟩)) ∧ w'.cell? ⟨w.heap.size, 0, none⟩ = some (.int .i64 n) ∧ w'.cell? ⟨w.heap.size, 1, none⟩ = some (.int .i64 0) ∧
      w'.frozen? ⟨w.heap.size, 1, none⟩ = false ∧ Below w.heap.size w w' ∧ w.heap.size < w'.heap.size ∧ w'.heap[w.heap.size]? = some (.cells (semCells n) 41 (0, 0)) := by
  refine (newSem n w h).mono ?_
  rintro e w' ⟨rfl, rfl⟩
  exact ⟨rfl, cell_new _ _ _ _ _ rfl, cell_new _ _ _ _ _ rfl, free_new _ _ _ _, (Below.refl _ _).alloc (Nat.le_refl _) _, by simp, heap_alloc_new _ _⟩

theorem info41 : ∃ j, Yba.prog.info? 41 = some j ∧ j.size ≠ 0 := by
  have h : (Yba.prog.info? 41).map (fun i => decide (i.size ≠ 0)) = some true := by kernel_rfl
  obtain ⟨j, hj, hs⟩ := Option.map_eq_some_iff.1 h
  exact ⟨j, hj, by simpa using hs⟩

theorem a_neg (n : Int) (w : World) (h : n < 1) :
    Calls Yba.prog 3 #[.int .i64 n] w fun e w' => e = .returned (.bool true) ∧ Below w.heap.size w w' := by
  go_enter Yba.func3, Yba.ntmps3
  go_wp2
  go_ret
  exact ⟨rfl, Below.refl _ _⟩

theorem a_pos (n : Int) (w : World) (h : 1 ≤ n) :
    Calls Yba.prog 3 #[.int .i64 n] w fun e w' => e = .returned (.bool true) ∧ Below w.heap.size w w' := by
  go_enter Yba.func3, Yba.ntmps3
  go_wp2_with (first
    | (go_at_call 6; refine (newSem' n _ h).mono ?_; rintro e w1 ⟨rfl, c0, c1, f1, hb, hz, hk⟩; clear hk)
    | (go_at_call 7; refine (load64 _ _ _ _ c1).mono ?_; rintro e w' ⟨rfl, hw⟩; rw [hw]; clear hw w'))
  go_ret
  exact ⟨rfl, hb⟩

theorem f_neg (n : Int) (w : World) (h : n < 1) :
    Calls Yba.prog 4 #[.int .i64 n] w fun e w' => e = .returned (.bool true) ∧ Below w.heap.size w w' := by
  go_enter Yba.func4, Yba.ntmps4
  go_wp2
  go_ret
  exact ⟨rfl, Below.refl _ _⟩

theorem f_pos (n : Int) (w : World) (h : 1 ≤ n) :
    Calls Yba.prog 4 #[.int .i64 n] w fun e w' => e = .returned (.bool true) ∧ Below w.heap.size w w' := by
  go_enter Yba.func4, Yba.ntmps4
  go_wp2_with fail
  refine (newSem' n _ h).mono ?_
  rintro e w1 ⟨rfl, c0, c1, f1, hb, hz, hk⟩
  go_wp2_with fail
  refine (newSem' n _ h).mono ?_
  rintro e w2 ⟨rfl, d0, d1, g1, hb2, hz2, hk2⟩
  have hne : ¬ w.heap.size = w1.heap.size := by omega
  replace c0 := (hb2.cell (p := ⟨w.heap.size, 0, none⟩) hz).trans c0
  replace c1 := (hb2.cell (p := ⟨w.heap.size, 1, none⟩) hz).trans c1
  replace f1 := (hb2.frozen (p := ⟨w.heap.size, 1, none⟩) hz).trans f1
  obtain ⟨j, hj, hjs⟩ : ∃ j, Yba.prog.info? 41 = some j ∧ j.size ≠ 0 := info41
  have heq := run_eql_ptr_other (P := Yba.prog) w2 (a := ⟨w.heap.size, 0, none⟩) (b := ⟨w1.heap.size, 0, none⟩) Yba.underlying22 hj hjs (by simp) ((hb2.block _ hz).trans hk) hk2
  clear hk hk2 hj hjs
  go_wp2_with fail
  refine (store64 _ _ n _ _ c1 f1).mono ?_
  rintro e w3 ⟨rfl, hw3⟩
  have e0 : w3.cell? ⟨w1.heap.size, 0, none⟩ = some (.int .i64 n) := by rw [hw3]; exact (cell_other _ _ _ _ _ _ (by omega)).trans d0
  have e1 : w3.cell? ⟨w1.heap.size, 1, none⟩ = some (.int .i64 0) := by rw [hw3]; exact (cell_other _ _ _ _ _ _ (by omega)).trans d1
  have e2 : w3.cell? ⟨w.heap.size, 0, none⟩ = some (.int .i64 n) := by rw [hw3]; exact (cell_other _ _ _ _ _ _ (by omega)).trans c0
  have hb3 : Below w.heap.size w w3 := by rw [hw3]; exact (hb.trans (hb2.mono (by omega))).setCell (Nat.le_refl _) _
  clear hw3 heq c0 c1 f1 d0 d1 g1 hb hb2
  go_wp2_with fail
  refine (load64 _ _ _ _ e1).mono ?_
  rintro e w' ⟨rfl, hw⟩
  rw [hw]
  clear hw w'
  go_wp2
  go_ret
  exact ⟨rfl, hb3⟩
theorem load32 (b o : Nat) (x : Int) (w : World) (h : w.cell? ⟨b, o, none⟩ = some (.int .i32 x)) :
    Calls Yba.prog 12 #[.pointer (some ⟨b, o, none⟩)] w fun e w' => e = .returned (.int .i32 x) ∧ w' = w := by
  have hld := run_call_load (P := Yba.prog) Yba.func19 (by kernel_rfl) (by kernel_rfl) (by kernel_rfl) .i32 (by kernel_rfl) h
  go_enter Yba.func12, Yba.ntmps12
  go_wp2
  go_ret
  exact ⟨rfl, rfl⟩

theorem loadu32 (b o : Nat) (x : Int) (w : World) (h : w.cell? ⟨b, o, none⟩ = some (.int .u32 x)) :
    Calls Yba.prog 13 #[.pointer (some ⟨b, o, none⟩)] w fun e w' => e = .returned (.int .u32 x) ∧ w' = w := by
  have hld := run_call_load (P := Yba.prog) Yba.func20 (by kernel_rfl) (by kernel_rfl) (by kernel_rfl) .u32 (by kernel_rfl) h
  go_enter Yba.func13, Yba.ntmps13
  go_wp2
  go_ret
  exact ⟨rfl, rfl⟩

theorem store32 (b o : Nat) (y : Int) (u : Value) (w : World) (h : w.cell? ⟨b, o, none⟩ = some u) (hf : w.frozen? ⟨b, o, none⟩ = false) :
    Calls Yba.prog 9 #[.pointer (some ⟨b, o, none⟩), .int .i32 y] w fun e w' => e = .returned (.tuple #[]) ∧ w' = w.setCell ⟨b, o, none⟩ (.int .i32 y) := by
  have hst := run_call_store (P := Yba.prog) Yba.func16 (by kernel_rfl) (by kernel_rfl) (by kernel_rfl) (by kernel_rfl) (k := .i32) (y := y) h hf
  go_enter Yba.func9, Yba.ntmps9
  go_wp2
  go_end0
  exact ⟨rfl, rfl⟩

theorem storeu32 (b o : Nat) (y : Int) (u : Value) (w : World) (h : w.cell? ⟨b, o, none⟩ = some u) (hf : w.frozen? ⟨b, o, none⟩ = false) :
    Calls Yba.prog 10 #[.pointer (some ⟨b, o, none⟩), .int .u32 y] w fun e w' => e = .returned (.tuple #[]) ∧ w' = w.setCell ⟨b, o, none⟩ (.int .u32 y) := by
  have hst := run_call_store (P := Yba.prog) Yba.func17 (by kernel_rfl) (by kernel_rfl) (by kernel_rfl) (by kernel_rfl) (k := .u32) (y := y) h hf
  go_enter Yba.func10, Yba.ntmps10
  go_wp2
  go_end0
  exact ⟨rfl, rfl⟩

theorem cas32 (b o : Nat) (x y : Int) (w : World) (h : w.cell? ⟨b, o, none⟩ = some (.int .i32 x)) (hf : w.frozen? ⟨b, o, none⟩ = false) :
    Calls Yba.prog 18 #[.pointer (some ⟨b, o, none⟩), .int .i32 x, .int .i32 y] w fun e w' => e = .returned (.bool true) ∧ w' = w.setCell ⟨b, o, none⟩ (.int .i32 y) := by
  have hst := run_call_cas_hit (P := Yba.prog) Yba.func21 (by kernel_rfl) (by kernel_rfl) (by kernel_rfl) .i32 (by kernel_rfl) (y := y) h hf
  go_enter Yba.func18, Yba.ntmps18
  go_wp2
  go_ret
  exact ⟨rfl, rfl⟩

theorem tl_held (b o : Nat) (x : Int) (w : World) (h : w.cell? ⟨b, o, none⟩ = some (.int .i32 x)) (hb : (bits .and .i32 x 1 != 0) = true) :
    Calls Yba.prog 11 #[.pointer (some ⟨b, o, none⟩)] w fun e w' => e = .returned (.bool false) ∧ w' = w := by
  go_enter Yba.func11, Yba.ntmps11
  go_wp2
  refine wp_loop_rounds 1 ?_
  rw [rounds_succ]
  go_wp2_with (go_at_call 12; refine (load32 _ _ _ _ h).mono ?_; rintro e w' ⟨rfl, hw⟩; rw [hw]; clear hw w')
  go_ret
  exact ⟨rfl, rfl⟩

theorem tl_free (b o : Nat) (x : Int) (w : World) (h : w.cell? ⟨b, o, none⟩ = some (.int .i32 x)) (hf : w.frozen? ⟨b, o, none⟩ = false) (hb : (bits .and .i32 x 1 != 0) = false) :
    Calls Yba.prog 11 #[.pointer (some ⟨b, o, none⟩)] w fun e w' => e = .returned (.bool true) ∧ w' = w.setCell ⟨b, o, none⟩ (.int .i32 (bits .or .i32 x 1)) := by
  go_enter Yba.func11, Yba.ntmps11
  go_wp2
  refine wp_loop_rounds 1 ?_
  rw [rounds_succ]
  go_wp2_with (first | (go_at_call 12; refine (load32 _ _ _ _ h).mono ?_; rintro e w' ⟨rfl, hw⟩; rw [hw]; clear hw w') | (go_at_call 18; refine (cas32 _ _ _ _ _ h hf).mono ?_; rintro e w' ⟨rfl, hw⟩; rw [hw]; clear hw w'))
  go_ret
  exact ⟨rfl, rfl⟩

def mutCells : Array Value := #[.int .i32 0, .int .u32 0, .pointer none, .pointer none, .pointer none, .int .i64 0]
theorem free_set (w : World) (b o : Nat) (a : Addr) (u : Value) (h : w.frozen? ⟨b, o, none⟩ = false) : (w.setCell a u).frozen? ⟨b, o, none⟩ = false := by
  simpa using h

theorem b_held (s p : Int) (w : World) (hb : (bits .and .i32 s 1 != 0) = true) (hm : (s % 2 == 1) = true) :
    Calls Yba.prog 5 #[.int .i32 s, .int .u32 p] w fun e w' => e = .returned (.bool true) ∧ Below w.heap.size w w' := by
  go_enter Yba.func5, Yba.ntmps5
  go_wp2_with fail
  have B0 : Below w.heap.size w (w.alloc (.cells mutCells 52)) := (Below.refl _ _).alloc (Nat.le_refl _) _
  have c0 := cell_new w mutCells 52 0 (.int .i32 0) rfl
  have c1 := cell_new w mutCells 52 1 (.int .u32 0) rfl
  have f0 := free_new w mutCells 52 0
  have f1 := free_new w mutCells 52 1
  unfold mutCells at *
  generalize w.alloc (.cells #[.int .i32 0, .int .u32 0, .pointer none, .pointer none, .pointer none, .int .i64 0] 52) = w0 at *
  refine (store32 _ _ s _ _ c0 f0).mono ?_
  rintro e w1 ⟨rfl, hw1⟩
  have d0 : w1.cell? ⟨w.heap.size, 0, none⟩ = some (.int .i32 s) := by rw [hw1]; exact World.cell?_setCell_same _ _ _ c0
  have d1 : w1.cell? ⟨w.heap.size, 1, none⟩ = some (.int .u32 0) := by rw [hw1]; exact (cell_other _ _ _ _ _ _ (by omega)).trans c1
  have g1 : w1.frozen? ⟨w.heap.size, 1, none⟩ = false := by rw [hw1]; exact free_set _ _ _ _ _ f1
  have B1 : Below w.heap.size w w1 := by rw [hw1]; exact B0.setCell (Nat.le_refl _) _
  clear hw1 c0 c1 f0 f1 B0
  go_wp2_with fail
  refine (storeu32 _ _ p _ _ d1 g1).mono ?_
  rintro e w2 ⟨rfl, hw2⟩
  have e0 : w2.cell? ⟨w.heap.size, 0, none⟩ = some (.int .i32 s) := by rw [hw2]; exact (cell_other _ _ _ _ _ _ (by omega)).trans d0
  have e1 : w2.cell? ⟨w.heap.size, 1, none⟩ = some (.int .u32 p) := by rw [hw2]; exact World.cell?_setCell_same _ _ _ d1
  have B2 : Below w.heap.size w w2 := by rw [hw2]; exact B1.setCell (Nat.le_refl _) _
  clear hw2 d0 d1 g1 B1
  go_wp2_with fail
  refine (tl_held _ _ s _ e0 hb).mono ?_
  rintro e w' ⟨rfl, hw⟩
  rw [hw]
  clear hw w'
  go_wp2_with fail
  refine (load32 _ _ s _ e0).mono ?_
  rintro e w' ⟨rfl, hw⟩
  rw [hw]
  clear hw w'
  go_wp2_with fail
  refine (loadu32 _ _ p _ e1).mono ?_
  rintro e w' ⟨rfl, hw⟩
  rw [hw]
  clear hw w'
  go_wp2_with fail
  go_ret
  exact ⟨rfl, B2⟩

theorem b_free (s p : Int) (w : World) (hb : (bits .and .i32 s 1 != 0) = false) (hm : (s % 2 == 1) = false) (s1 : Int) (hs1 : Hid (bits .or .i32 s 1 = s1)) (hlast : (s1 % 4294967296 == (s + 1) % 4294967296) = true) :
    Calls Yba.prog 5 #[.int .i32 s, .int .u32 p] w fun e w' => e = .returned (.bool true) ∧ Below w.heap.size w w' := by
  go_enter Yba.func5, Yba.ntmps5
  go_wp2_with fail
  have B0 : Below w.heap.size w (w.alloc (.cells mutCells 52)) := (Below.refl _ _).alloc (Nat.le_refl _) _
  have c0 := cell_new w mutCells 52 0 (.int .i32 0) rfl
  have c1 := cell_new w mutCells 52 1 (.int .u32 0) rfl
  have f0 := free_new w mutCells 52 0
  have f1 := free_new w mutCells 52 1
  unfold mutCells at *
  generalize w.alloc (.cells #[.int .i32 0, .int .u32 0, .pointer none, .pointer none, .pointer none, .int .i64 0] 52) = w0 at *
  refine (store32 _ _ s _ _ c0 f0).mono ?_
  rintro e w1 ⟨rfl, hw1⟩
  have d0 : w1.cell? ⟨w.heap.size, 0, none⟩ = some (.int .i32 s) := by rw [hw1]; exact World.cell?_setCell_same _ _ _ c0
  have d1 : w1.cell? ⟨w.heap.size, 1, none⟩ = some (.int .u32 0) := by rw [hw1]; exact (cell_other _ _ _ _ _ _ (by omega)).trans c1
  have g1 : w1.frozen? ⟨w.heap.size, 1, none⟩ = false := by rw [hw1]; exact free_set _ _ _ _ _ f1
  have B1 : Below w.heap.size w w1 := by rw [hw1]; exact B0.setCell (Nat.le_refl _) _
  have g0 : w1.frozen? ⟨w.heap.size, 0, none⟩ = false := by rw [hw1]; exact free_set _ _ _ _ _ f0
  clear hw1 c0 c1 f0 f1 B0
  go_wp2_with fail
  refine (storeu32 _ _ p _ _ d1 g1).mono ?_
  rintro e w2 ⟨rfl, hw2⟩
  have e0 : w2.cell? ⟨w.heap.size, 0, none⟩ = some (.int .i32 s) := by rw [hw2]; exact (cell_other _ _ _ _ _ _ (by omega)).trans d0
  have e1 : w2.cell? ⟨w.heap.size, 1, none⟩ = some (.int .u32 p) := by rw [hw2]; exact World.cell?_setCell_same _ _ _ d1
  have B2 : Below w.heap.size w w2 := by rw [hw2]; exact B1.setCell (Nat.le_refl _) _
  replace g0 : w2.frozen? ⟨w.heap.size, 0, none⟩ = false := by rw [hw2]; exact free_set _ _ _ _ _ g0
  clear hw2 d0 d1 g1 B1
  go_wp2_with fail
  refine (tl_free _ _ s _ e0 g0 hb).mono ?_
  rintro e w3 ⟨rfl, hw⟩
  rw [hs1.out] at hw
  have i0 : w3.cell? ⟨w.heap.size, 0, none⟩ = some (.int .i32 s1) := by rw [hw]; exact World.cell?_setCell_same _ _ _ e0
  have i1 : w3.cell? ⟨w.heap.size, 1, none⟩ = some (.int .u32 p) := by rw [hw]; exact (cell_other _ _ _ _ _ _ (by omega)).trans e1
  have B3 : Below w.heap.size w w3 := by rw [hw]; exact B2.setCell (Nat.le_refl _) _
  clear hw e0 e1 g0 B2
  go_wp2_with fail
  refine (load32 _ _ s1 _ i0).mono ?_
  rintro e w' ⟨rfl, hw⟩
  rw [hw]
  clear hw w'
  go_wp2_with fail
  refine (loadu32 _ _ p _ i1).mono ?_
  rintro e w' ⟨rfl, hw⟩
  rw [hw]
  clear hw w'
  go_wp2_with fail
  go_ret
  exact ⟨rfl, B3⟩
end Go.Proofs.Ybulkdike.walks
