import Derived.Test.YbulkdiksHeap
namespace Go.Proofs.Ybulkdiks
open Go.RowKit

theorem size_al (w : World) (o : Obj) : (w.alloc o).heap.size = w.heap.size + 1 := by simp

theorem Sit.start (w : World) (n : Nat) (zc cO cA : Array Value) (hz : zc.size = 41) (z39 : zc[39]! = .bool false) (z0 : zc[0]! = .int .i64 0) (z36 : zc[36]! = .bool false) (z37 : zc[37]! = .bool false) (z38 : zc[38]! = .bool false) (z40 : zc[40]! = .int .u32 0) (zone : ∀ r, r < 41 → zc[r]!.oneCell' = true)
    (hA : cA.size = 6) (a2 : cA[2]? = some (.slice (some ⟨w.heap.size + 1 + 1, 0, none⟩) n n)) (a3 : cA[3]? = some (.slice none 0 0)) (K : Nat → Nat) (V : Nat → Value) (L : Nat → List Value) :
    Sit w (((((w.alloc (.cells cO 30)).alloc (.cells (madeCells #[.pointer none] n) 46)).alloc (.cells (madeCells zc (n * 41)) 45)).alloc (.cells cA 30)).alloc (.cells (madeCells #[.int .i64 0] n) 3))
      w.heap.size (w.heap.size + 1) (w.heap.size + 1 + 1) (w.heap.size + 1 + 1 + 1) (w.heap.size + 1 + 1 + 1 + 1) (w.heap.size + 1 + 1 + 1 + 1 + 1) n 0 0 (fun _ => false) K V L (fun _ => 0) (.slice none 0 0) [] [] := by
  have r0 := heap_alloc_new w (.cells cO 30)
  have s1 := size_al w (.cells cO 30)
  have b1 : Below w.heap.size w (w.alloc (.cells cO 30)) := (Below.refl _ _).alloc (Nat.le_refl _) _
  generalize w.alloc (.cells cO 30) = w1 at *
  have r1 := World.rowIs_made w1 (.pointer none) n 46
  have s2 := size_al w1 (.cells (madeCells #[.pointer none] n) 46)
  have b2 : Below w1.heap.size w1 (w1.alloc (.cells (madeCells #[.pointer none] n) 46)) := (Below.refl _ _).alloc (Nat.le_refl _) _
  generalize w1.alloc (.cells (madeCells #[.pointer none] n) 46) = w2 at *
  have r2 := heap_alloc_new w2 (.cells (madeCells zc (n * 41)) 45)
  have s3 := size_al w2 (.cells (madeCells zc (n * 41)) 45)
  have b3 : Below w2.heap.size w2 (w2.alloc (.cells (madeCells zc (n * 41)) 45)) := (Below.refl _ _).alloc (Nat.le_refl _) _
  generalize w2.alloc (.cells (madeCells zc (n * 41)) 45) = w3 at *
  have r3 := heap_alloc_new w3 (.cells cA 30)
  have s4 := size_al w3 (.cells cA 30)
  have b4 : Below w3.heap.size w3 (w3.alloc (.cells cA 30)) := (Below.refl _ _).alloc (Nat.le_refl _) _
  generalize w3.alloc (.cells cA 30) = w4 at *
  have r4 := World.rowIs_made w4 (.int .i64 0) n 3
  have s5 := size_al w4 (.cells (madeCells #[.int .i64 0] n) 3)
  have b5 : Below w4.heap.size w4 (w4.alloc (.cells (madeCells #[.int .i64 0] n) 3)) := (Below.refl _ _).alloc (Nat.le_refl _) _
  generalize w4.alloc (.cells (madeCells #[.int .i64 0] n) 3) = w5 at *
  rw [s1] at r1 s2 b2
  rw [s2] at r2 s3 b3
  rw [s3] at r3 s4 b4
  rw [s4] at r4 s5 b5
  have B45 : Below (w.heap.size + 1 + 1 + 1 + 1) w4 w5 := b5
  have B35 : Below (w.heap.size + 1 + 1 + 1) w3 w5 := b4.trans (b5.mono (by omega))
  have B25 : Below (w.heap.size + 1 + 1) w2 w5 := b3.trans (B35.mono (by omega))
  have B15 : Below (w.heap.size + 1) w1 w5 := b2.trans (B25.mono (by omega))
  refine ⟨b1.trans (B15.mono (by omega)), by omega, by omega, by omega, by omega, by omega, by omega, ⟨cO, (B15.block _ (by omega)).trans r0⟩, ?_, ?_, ⟨cA, (B45.block _ (by omega)).trans r3, hA, a2, a3⟩, r4, fun i hi => by omega, fun i hi => by omega, fun i j hi => by omega, fun i j g hi => by omega, World.ownsRow_nil _ _ _ _, fun x hx => by simp at hx⟩
  · exact (r1.of_block (B25.block _ (by omega))).congr (fun i hi => by simp)
  · refine ⟨fun _ r => zc[r]!, ⟨_, (B35.block _ (by omega)).trans r2, size_madeCells _ _, ?_⟩, fun i hi => ⟨z39, z0, z36, z37, z38, z40, zone⟩⟩
    intro x hx
    simp only [madeCells, Array.getElem?_map, stk, hz]
    rw [Array.getElem?_eq_getElem (by simpa using hx)]
    simp

/-! ### The plain functions of the loops -/
def tA (T : Nat → Bool) (k : Nat) : Nat → Bool := fun i => if i < k then T i else false
def pA (P : Nat → Nat) (k : Nat) : Nat → Nat := fun i => if i < k then P i else 0
def LA (P : Nat → Nat) (p : Value) : Nat → List Value := fun i => List.replicate (P i) p

theorem tA_zero (T : Nat → Bool) : tA T 0 = fun _ => false := by funext i; simp [tA]
theorem pA_zero (P : Nat → Nat) : pA P 0 = fun _ => 0 := by funext i; simp [pA]
theorem tA_succ (T : Nat → Bool) (k : Nat) : upd (tA T k) k (T k) = tA T (k + 1) := by
  funext i
  unfold tA upd
  by_cases e : i = k
  · simp [e]
  · by_cases h : i < k
    · simp [e, h, show i < k + 1 by omega]
    · simp [e, h, show ¬ i < k + 1 by omega]
theorem pA_succ (P : Nat → Nat) (k : Nat) : upd (pA P k) k (P k) = pA P (k + 1) := by
  funext i
  unfold pA upd
  by_cases e : i = k
  · simp [e]
  · by_cases h : i < k
    · simp [e, h, show i < k + 1 by omega]
    · simp [e, h, show ¬ i < k + 1 by omega]
theorem LA_upd (P : Nat → Nat) (p : Value) (k : Nat) : upd (LA P p) k (List.replicate (P k) p) = LA P p := by
  funext i
  unfold LA upd
  by_cases e : i = k
  · simp [e]
  · simp [e]
theorem upd_upd {α : Type} (f : Nat → α) (k : Nat) (x y : α) : upd (upd f k x) k y = upd f k y := by
  funext i
  unfold upd
  by_cases e : i = k <;> simp [e]
end Go.Proofs.Ybulkdiks
