import Derived.Test.YbulkdilgDoorK2
import Derived.Test.YbulkdilgDoorK4
namespace Go.Proofs.YbulkdilgDoor
open Go.RowKit
set_option maxRecDepth 100000
set_option linter.unusedVariables false
set_option linter.unusedSimpArgs false
set_option linter.unnecessarySimpa false

theorem dec_unique {buy : Bool} : ∀ {A B : List Int}, Dec buy A → Dec buy B → (∀ p, p ∈ A ↔ p ∈ B) → A = B
  | [], [], _, _, _ => rfl
  | [], b :: B, _, _, h => by have := (h b).2 (by simp); simp at this
  | a :: A, [], _, _, h => by have := (h a).1 (by simp); simp at this
  | a :: A, b :: B, hA, hB, h => by
    have pa := List.pairwise_cons.1 hA
    have pb := List.pairwise_cons.1 hB
    have hab : a = b := by
      apply Classical.byContradiction
      intro hne
      have h1 : a ∈ B := by
        have := (h a).1 (by simp)
        rcases List.mem_cons.1 this with e | e
        · exact absurd e hne
        · exact e
      have h2 : b ∈ A := by
        have := (h b).2 (by simp)
        rcases List.mem_cons.1 this with e | e
        · exact absurd e.symm hne
        · exact e
      have := bt_asym (pa.1 b h2)
      rw [pb.1 a h1] at this
      cases this
    subst hab
    congr 1
    refine dec_unique pa.2 pb.2 (fun p => ?_)
    constructor
    · intro hp
      have := (h p).1 (by simp [hp])
      rcases List.mem_cons.1 this with e | e
      · have := pa.1 p hp
        rw [e, bt_irr] at this
        cases this
      · exact e
    · intro hp
      have := (h p).2 (by simp [hp])
      rcases List.mem_cons.1 this with e | e
      · have := pb.1 p hp
        rw [e, bt_irr] at this
        cases this
      · exact e

theorem prices_sorted {w : World} {sb : Nat} {buy : Bool} {eb kb cb lim : Nat} {ds : List Nat} {M : Nat → Lv} {T : Tr} {X : Nat → Nat → Value} {P Q : Nat → Int} {cnt : Nat} {rs : List Nat} (h : Book w sb buy eb kb cb lim ds M T X P Q cnt rs) {L : List Int} (hp : L.Perm (dst P rs)) (hd : Dec buy L) :
    L = (io T).reverse.map (fun b => (M b).price) := by
  refine dec_unique hd ?_ ?_
  · unfold Dec
    rw [List.pairwise_map, List.pairwise_reverse]
    refine List.Pairwise.imp ?_ h.side.srt
    intro a b hab
    rw [bt_ky]
    rw [kx_ky, kx_ky] at hab
    simpa using hab
  · intro p
    rw [hp.mem_iff]
    have hf := (dst_facts P rs rs.length (Nat.le_refl _)).2.2 p
    rw [List.take_length] at hf
    rw [hf]
    constructor
    · rintro ⟨i, hi, e⟩
      obtain ⟨b, hb, e2⟩ := h.cov i hi
      exact List.mem_map.2 ⟨b, List.mem_reverse.2 hb, e2.trans e⟩
    · intro hm
      obtain ⟨b, hb, e⟩ := List.mem_map.1 hm
      have hne := (h.lvl b (List.mem_reverse.1 hb)).1
      cases hO : Od P rs (M b).price with
      | nil => exact absurd hO hne
      | cons i r =>
        obtain ⟨h1, h2⟩ := Od_mem.1 (show i ∈ Od P rs (M b).price by rw [hO]; simp)
        exact ⟨i, h1, h2.trans e⟩
end Go.Proofs.YbulkdilgDoor
