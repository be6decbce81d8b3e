import Derived.Test.YbulkdilgFin
namespace Go.Proofs.Ybulkdilg
open Go.RowKit
set_option linter.unusedVariables false
set_option linter.unusedSimpArgs false

theorem own_form {w : World} {base : Nat} {e : TypeId} {v : Value} {n : Nat} {xs : List Value} (h : w.ownsRow base e 1 v n xs) : ∃ va vc, v = .slice va n vc := by
  obtain ⟨_, ⟨rfl, rfl⟩ | ⟨g, cap, cur, rfl, _⟩⟩ := h
  · exact ⟨_, _, rfl⟩
  · exact ⟨_, _, rfl⟩
theorem own_of {w w' : World} {base : Nat} {e : TypeId} {v : Value} {n : Nat} {xs : List Value} (h : w.ownsRow base e 1 v n xs) (hk : ∀ g, v.ownBlock = some g → w'.heap[g]? = w.heap[g]?) : w'.ownsRow base e 1 v n xs := by
  obtain ⟨h1, h2 | ⟨g, cap, cur, rfl, h3, h4, h5⟩⟩ := h
  · exact ⟨h1, .inl h2⟩
  · exact ⟨h1, .inr ⟨g, cap, cur, rfl, h3, (hk g rfl).trans h4, h5⟩⟩
theorem walk_start {w0 w7 w8 : World} {sb : Nat} {buy : Bool} {l ge m : Nat} {v : Lv} {ds : List Nat} {M : Nat → Lv} {T : Tr} (h : Aft w0 w7 sb buy l ge m v ds M T) (hb : Below w7.heap.size w7 w8) (hm : m ≤ 4200) :
    Calls Yba.prog 11 #[.pointer (adr (root T)), .pointer (some ⟨w8.heap.size, 0, none⟩), .int .i64 0] (w8.alloc (.cells #[.slice none 0 0] 46)) fun e w' => e = .returned (.tuple #[.int .i8 (ht T), .bool true]) ∧ Hold (w8.heap.size + 1) w8.heap.size ([] ++ io T) w' ∧ Near (w8.heap.size + 1) w8.heap.size (w8.alloc (.cells #[.slice none 0 0] 46)) w' := by
  have hlt : ∀ b, b ∈ ds → b < w7.heap.size := fun b hb' => (h.side.lvs b hb').lt
  have hsz := hb.size
  have hht : ht T ≤ 25 := ht_le h.side.bal (by rw [h.len]; omega)
  have key := walk_c (w8.heap.size + 1) w8.heap.size (by omega) ds M (fun b hb' => by have := hlt b hb'; omega) T (w8.alloc (.cells #[.slice none 0 0] 46)) [] 0
    (fun b hb' => (h.side.lvs b hb').of ((Below.heap_alloc _ _ _ (by have := hlt b hb'; omega)).trans (hb.block b (hlt b hb')))) h.side.rep h.side.bal h.side.sub
    ⟨.slice none 0 0, heap_alloc_new _ _, World.ownsRow_nil _ _ _ _, by rw [← World.alloc_eq]; simp⟩ (by rw [h.len]; simp; omega) (by omega) (by omega)
  exact key

end Go.Proofs.Ybulkdilg
