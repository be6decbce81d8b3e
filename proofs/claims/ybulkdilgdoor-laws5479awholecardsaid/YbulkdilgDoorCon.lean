import Derived.Test.YbulkdilgDoorCommon
namespace Go.Proofs.YbulkdilgDoor
open Go.RowKit
set_option maxRecDepth 100000
set_option linter.unusedVariables false
set_option linter.unusedSimpArgs false
set_option linter.unnecessarySimpa false

def am (W : List Int) : List Value := W.map (Value.int .i64)
theorem am_app (A B : List Int) : am (A ++ B) = am A ++ am B := by simp [am]
theorem am_get {W : List Int} {i : Nat} (hi : i < W.length) : (am W)[i]? = some (.int .i64 (W.getD i 0)) := by
  simp [am, List.getD, List.getElem?_eq_getElem hi]
theorem add_at (b off j : Nat) : (⟨b, off, none⟩ : Addr).add j = ⟨b, off + j, none⟩ := by
  unfold Addr.add; split <;> simp_all
theorem info44 : (Ybad.prog.info? 44).map (fun i => (i.zero, i.size, i.bytes)) = some (some (.int .i64 0), 1, 8) := by kernel_rfl
/-- A list of amounts in a row of the call's own. -/
def Ow (w : World) (base : Nat) (va : Option Addr) (vc : Nat) (L : List Int) : Prop := w.ownsRow base 44 1 (.slice va L.length vc) L.length (am L)
theorem Ow.cell {w : World} {base : Nat} {va : Option Addr} {vc : Nat} {L : List Int} (h : Ow w base va vc L) {i : Nat} (hi : i < L.length) : ∃ g, va = some ⟨g, 0, none⟩ ∧ w.cell? ⟨g, i, none⟩ = some (.int .i64 (L.getD i 0)) := by
  obtain ⟨g, cap, e, _, _⟩ := h.form (by omega)
  obtain ⟨e1, e2⟩ : va = some ⟨g, 0, none⟩ ∧ vc = cap := by simpa using e
  subst e1
  refine ⟨g, rfl, ?_⟩
  have := h.cells (g := g) rfl i _ (am_get hi)
  rwa [add_at, Nat.zero_add] at this

set_option maxHeartbeats 1000000 in
theorem index_c (w : World) (base : Nat) (va : Option Addr) (vc : Nat) (L : List Int) (p : Int) (h : Ow w base va vc L) (hl : L.length ≤ 5000) : Calls Ybad.prog 23 #[.slice va L.length vc, .int .i64 p] w fun e w' => ∃ k : Int, e = .returned (.int .i64 k) ∧ (decide (0 ≤ k) = decide (p ∈ L)) ∧ w' = w := by
  have hO := hid h
  clear h
  go_enter Ybad.func23, Ybad.ntmps23
  go_wp2_with fail
  go_loopw [8] (fun x wr => ∃ k : Nat, k ≤ L.length ∧ (∀ j, j < k → L.getD j 0 ≠ p) ∧ x = .int .i64 k ∧ wr = w) (fun x _ => L.length - (intOf x).toNat)
  case atStart => exact ⟨0, Nat.zero_le _, fun j hj => by omega, rfl, rfl⟩
  case round =>
    obtain ⟨k, hk, hj, rfl, rfl⟩ := hrel
    by_cases hlt : k < L.length
    · obtain ⟨g, rfl, c⟩ := hO.out.cell hlt
      have hJ := hid hj
      clear hj
      by_cases he : L.getD k 0 = p
      · rw [he] at c
        go_wp2
        go_ret
        refine ⟨k, rfl, ?_, rfl⟩
        have : p ∈ L := by
          rw [← he]
          simp [List.getD, List.getElem?_eq_getElem hlt]
        simp [this]
      · have hec : (p == L.getD k 0) = false := by
          have : ¬ p = L.getD k 0 := fun e => he e.symm
          simpa using this
        have hJ2 : Hid (∀ j, j < k + 1 → L.getD j 0 ≠ p) := fun j hj => by
          rcases Nat.lt_succ_iff_lt_or_eq.1 hj with h | rfl
          · exact hJ.out j h
          · exact he
        generalize L.getD k 0 = y at c hec
        go_wp2
        go_roundw
        case rel => exact ⟨k + 1, by omega, hJ2.out, by go_num, by trivial⟩
        case measure => simp [intOf]; omega
    · obtain rfl : k = L.length := by omega
      have hJ := hid hj
      clear hj
      go_wp2
      go_ret
      refine ⟨-1, rfl, ?_, rfl⟩
      have : p ∉ L := fun hm => by
        obtain ⟨j, hjl, e⟩ := List.getElem_of_mem hm
        exact hJ.out j hjl (by simp [List.getD, List.getElem?_eq_getElem hjl, e])
      simp [this]

theorem contains_c (w : World) (base : Nat) (va : Option Addr) (vc : Nat) (L : List Int) (p : Int) (h : Ow w base va vc L) (hl : L.length ≤ 5000) : Calls Ybad.prog 14 #[.slice va L.length vc, .int .i64 p] w fun e w' => e = .returned (.bool (decide (p ∈ L))) ∧ w' = w := by
  go_enter Ybad.func14, Ybad.ntmps14
  go_wp2_with (go_at_call 23; refine (index_c w base va vc L p h hl).mono ?_; rintro e w' ⟨k, rfl, hk, rfl⟩)
  go_ret
  exact ⟨by simp [hk], rfl⟩
end Go.Proofs.YbulkdilgDoor
