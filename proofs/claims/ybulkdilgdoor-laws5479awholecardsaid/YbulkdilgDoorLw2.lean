import Derived.Test.YbulkdilgDoorSt3
import Derived.Lib.JoinLaws
namespace Go.Proofs.YbulkdilgDoor
open Go.RowKit
set_option maxRecDepth 100000
set_option linter.unusedVariables false
set_option linter.unusedSimpArgs false
set_option linter.unnecessarySimpa false

theorem zero47 : ∃ i z, Ybad.prog.info? 47 = some i ∧ i.zero = some z ∧ i.size = 14 ∧ i.bytes ≤ 1000 ∧ z.cells.size = 14 ∧ z.cells[7]! = .int .u32 0 ∧ z.cells[8]! = .int .u32 0 ∧ z.cells[13]! = .bool false := by
  have h : (Ybad.prog.info? 47).map (fun i => (i.zero.map (fun z => (z.cells.size, z.cells[7]!, z.cells[8]!, z.cells[13]!)), i.size, decide (i.bytes ≤ 1000))) = some (some (14, .int .u32 0, .int .u32 0, .bool false), 14, true) := by kernel_rfl
  obtain ⟨i, hi, h2⟩ := Option.map_eq_some_iff.1 h
  simp only [Prod.mk.injEq] at h2
  obtain ⟨h3, h4, h5⟩ := h2
  obtain ⟨z, hz, h6⟩ := Option.map_eq_some_iff.1 h3
  simp only [Prod.mk.injEq] at h6
  exact ⟨i, z, hi, hz, h4, of_decide_eq_true h5, h6⟩

/-- make([]entry, 1024) -/
theorem make28 : ∃ zc : Array Value, (zc.size = 14 ∧ zc[7]! = .int .u32 0 ∧ zc[8]! = .int .u32 0 ∧ zc[13]! = .bool false) ∧
    ∀ w, (Instr.makeSlice 28 (.int .i64 1024) (.int .i64 1024)).run Ybad.prog w = .ok (.slice (some ⟨w.heap.size, 0, none⟩) 1024 1024) (w.alloc (.cells (madeCells zc 14336) 47)) := by
  obtain ⟨i, z, hi, hz, hs, hb, z1, z2⟩ := zero47
  refine ⟨z.cells, ⟨z1, z2⟩, fun w => ?_⟩
  have h := run_make (P := Ybad.prog) w 28 47 i z Ybad.underlying28 hi hz .i64 .i64 1024 1024 (by omega) (by omega) (by omega) (by omega)
  rw [hs] at h
  exact h

/-- WHERE THE OPERATIONS BEGIN: an empty side, one chunk of entries, four empty rows. -/
theorem St.start {w0 w : World} {buy : Bool} {sb eb kb cb pb qb lb rb nA : Nat} {zc ce : Array Value} {f1 f2 f3 f4 : Nat → Value} (hz : zc.size = 14 ∧ zc[7]! = .int .u32 0 ∧ zc[8]! = .int .u32 0 ∧ zc[13]! = .bool false)
    (hk : w.heap[kb]? = some (.cells #[.slice (some ⟨cb, 0, none⟩) 1024 1024] 28 (0, 0))) (hc : w.heap[cb]? = some (.cells (madeCells zc 14336) 47 (0, 0)))
    (he : w.heap[eb]? = some (.cells ce 32 (0, 0))) (hce : ce[0]? = some (.slice (some ⟨kb, 0, none⟩) 1 1)) (hs : w.heap[sb]? = some (.cells (sideCells buy none none (some ⟨eb, 0, none⟩)) 36 (0, 0)))
    (r1 : w.rowIs pb 44 nA f1) (r2 : w.rowIs qb 44 nA f2) (r3 : w.rowIs lb 4 nA f3) (r4 : w.rowIs rb 3 nA f4)
    (h0 : w0.heap.size ≤ kb) (h1 : kb < cb) (h2 : cb < eb) (h3 : eb < sb) (h4 : sb < pb) (h5 : pb < qb) (h6 : qb < lb) (h7 : lb < rb) (h8 : rb < w.heap.size)
    (bel : Below w0.heap.size w0 w) (hnA : nA ≤ 1024) : St w0 w buy sb eb kb cb (rb + 1) pb qb lb rb nA 0 [] := by
  obtain ⟨z1, z7, z8, z13⟩ := hz
  have hbk : Book w sb buy eb kb cb (rb + 1) [] (fun _ => lv0 0 none none) .nil (fun _ k => zc[k]!) (fun _ => 0) (fun _ => 0) 0 [] := by
    refine ⟨⟨hs, fun b hb => by simp at hb, by simp, trivial, trivial, fun b hb => by simp [io] at hb, List.Pairwise.nil, ?_⟩, ⟨ce, he, hce⟩, ⟨_, hk, rfl⟩, ⟨_, hc, size_madeCells _ _, ?_⟩, by omega, fun b hb => by simp at hb, by omega, List.nodup_nil, fun i hi => by simp at hi, fun i => by omega, fun i hi => by omega,
      fun i _ => ⟨z7, z8⟩, fun i _ _ => z13, fun p A i B e => by simp [Od] at e, fun b hb => by simp [io] at hb, fun i hi => by simp at hi⟩
    · intro A b B e
      simp [io] at e
    · intro x hx
      simp only [madeCells, Array.getElem?_map, z1]
      rw [Array.getElem?_eq_getElem (by simpa using hx)]
      simp
  refine ⟨⟨[], fun _ => lv0 0 none none, .nil, fun _ k => zc[k]!, fun _ => 0, fun _ => 0, hbk, ⟨f1, r1, fun i hi => by omega⟩, ⟨f2, r2, fun i hi => by omega⟩⟩, ⟨f3, r3, fun i hi => by omega⟩, ⟨f4, r4, fun k i hk => by simp at hk⟩, ?_, by omega, by omega, by omega, bel, hnA, by omega⟩
  have n1 : ∀ x y : Nat, x < y → x ≠ y := fun x y h => by omega
  have n2 : ∀ x y : Nat, y < x → x ≠ y := fun x y h => by omega
  simp only [List.nodup_cons, List.mem_cons, List.not_mem_nil, or_false, not_or, List.nodup_nil, and_true, not_false_eq_true]
  refine ⟨⟨n1 _ _ ?_, n1 _ _ ?_, n1 _ _ ?_, n2 _ _ ?_, n2 _ _ ?_, n2 _ _ ?_, n2 _ _ ?_⟩, ⟨n1 _ _ ?_, n1 _ _ ?_, n2 _ _ ?_, n2 _ _ ?_, n2 _ _ ?_, n2 _ _ ?_⟩, ⟨n1 _ _ ?_, n2 _ _ ?_, n2 _ _ ?_, n2 _ _ ?_, n2 _ _ ?_⟩, ⟨n2 _ _ ?_, n2 _ _ ?_, n2 _ _ ?_, n2 _ _ ?_⟩, ⟨n2 _ _ ?_, n2 _ _ ?_, n2 _ _ ?_⟩, ⟨n2 _ _ ?_, n2 _ _ ?_⟩, n1 _ _ ?_⟩ <;> omega
end Go.Proofs.YbulkdilgDoor
