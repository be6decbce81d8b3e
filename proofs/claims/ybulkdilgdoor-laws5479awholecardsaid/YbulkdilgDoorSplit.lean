import Derived.Test.YbulkdilgDoorBook
namespace Go.Proofs.YbulkdilgDoor
open Go.RowKit
set_option maxRecDepth 100000
set_option linter.unusedVariables false
set_option linter.unusedSimpArgs false
set_option linter.unnecessarySimpa false

theorem bt_tri {buy : Bool} {p q : Int} (h : p ≠ q) (h2 : bt buy p q = false) : bt buy q p = true := by
  cases buy <;> simp [bt] at h2 ⊢ <;> omega
theorem bt_asym {buy : Bool} {p q : Int} (h : bt buy p q = true) : bt buy q p = false := by
  cases buy <;> simp [bt] at h ⊢ <;> omega
theorem bt_irr (buy : Bool) (p : Int) : bt buy p p = false := by
  cases buy <;> simp [bt]
theorem bt_trans {buy : Bool} {p q r : Int} (h : bt buy p q = true) (h2 : bt buy q r = true) : bt buy p r = true := by
  cases buy <;> simp [bt] at h h2 ⊢ <;> omega
theorem step3 {buy : Bool} {M : Nat → Lv} (a : Int) : ∀ {S : List Nat}, Srt buy M S → ∃ xs ys, S = xs ++ ys ∧ (∀ x, x ∈ xs → bt buy a (M x).price = true) ∧ (∀ y, y ∈ ys → bt buy a (M y).price = false)
  | [], _ => ⟨[], [], rfl, fun _ h => by simp at h, fun _ h => by simp at h⟩
  | b :: S, h => by
    have hp := List.pairwise_cons.1 h
    by_cases e : bt buy a (M b).price = true
    · obtain ⟨xs, ys, e1, e2, e3⟩ := step3 a (S := S) hp.2
      refine ⟨b :: xs, ys, by rw [e1]; rfl, fun x hx => ?_, e3⟩
      rcases List.mem_cons.1 hx with rfl | hx
      · exact e
      · exact e2 x hx
    · refine ⟨[], b :: S, rfl, fun _ h => by simp at h, fun y hy => ?_⟩
      rcases List.mem_cons.1 hy with rfl | hy
      · simpa using e
      · have := hp.1 y hy
        rw [bt_ky] at e ⊢
        rw [kx_ky, kx_ky] at this
        simp at e ⊢
        omega
theorem srt_app {buy : Bool} {M : Nat → Lv} {xs ys : List Nat} (h : Srt buy M (xs ++ ys)) : Srt buy M ys := (List.pairwise_append.1 h).2.1
theorem srt_head {buy : Bool} {M : Nat → Lv} {y : Nat} {ys : List Nat} (h : Srt buy M (y :: ys)) : ∀ z, z ∈ ys → bt buy (M z).price (M y).price = true := fun z hz => by
  have := (List.pairwise_cons.1 h).1 z hz
  rw [bt_ky]; rw [kx_ky, kx_ky] at this
  simpa using this

/-- What accepting answers. -/
theorem Side.split {w : World} {sb : Nat} {buy : Bool} {en : Option Addr} {ds : List Nat} {M : Nat → Lv} {T : Tr} (hs : Side w sb buy en ds M T) (a : Int) : ∃ xs ys, io T = xs ++ ys ∧ (∀ x, x ∈ xs → bt buy a (M x).price = true) ∧
    (Calls Ybad.prog 8 #[.pointer (some ⟨sb, 0, none⟩), .int .i64 a] w fun e w' => e = .returned (.pointer (adr ys.head?)) ∧ ∃ q, w' = w.drewN q) ∧
    ((∃ b, b ∈ io T ∧ ys.head? = some b ∧ (M b).price = a) ∨ ((∀ y, y ∈ ys → bt buy (M y).price a = true) ∧ ∀ b, b ∈ io T → (M b).price ≠ a)) := by
  obtain ⟨xs, ys, e0, e1, e2⟩ := step3 a hs.srt
  have hacc : acc buy a M T none = ys.head? := by
    rw [acc_io T none xs ys e0 e1 e2]
    cases ys <;> rfl
  refine ⟨xs, ys, e0, e1, ?_, ?_⟩
  · rw [← hacc]
    exact accepting_c buy a sb w ds M T hs.lvs (hs.cell 0 _ rfl) (hs.cell 1 _ rfl) hs.rep hs.sub
  · have srt := hs.srt
    rw [e0] at srt
    cases ys with
    | nil =>
      right
      refine ⟨fun y hy => by simp at hy, fun b hb e => ?_⟩
      rw [e0, List.append_nil] at hb
      have := e1 b hb
      rw [e, bt_irr] at this
      cases this
    | cons y ys' =>
      by_cases e : (M y).price = a
      · left
        exact ⟨y, by rw [e0]; simp, rfl, e⟩
      · right
        have hz : bt buy (M y).price a = true := bt_tri (fun h => e h.symm) (e2 y (by simp))
        have hall : ∀ z, z ∈ y :: ys' → bt buy (M z).price a = true := by
          intro z hz'
          rcases List.mem_cons.1 hz' with rfl | hz'
          · exact hz
          · exact bt_trans (srt_head (srt_app srt) z hz') hz
        refine ⟨hall, fun b hb h => ?_⟩
        rw [e0] at hb
        rcases List.mem_append.1 hb with hb | hb
        · have := e1 b hb
          rw [h, bt_irr] at this
          cases this
        · have := hall b hb
          rw [h, bt_irr] at this
          cases this
theorem srt_inj {buy : Bool} {M : Nat → Lv} : ∀ {S : List Nat}, Srt buy M S → ∀ a b, a ∈ S → b ∈ S → (M a).price = (M b).price → a = b
  | [], _, a, b, ha, _, _ => by simp at ha
  | x :: S, h, a, b, ha, hb, e => by
    have hp := List.pairwise_cons.1 h
    rcases List.mem_cons.1 ha with h1 | h1 <;> rcases List.mem_cons.1 hb with h2 | h2
    · rw [h1, h2]
    · have := hp.1 b h2
      rw [kx_ky, kx_ky, ← e, h1] at this; omega
    · have := hp.1 a h1
      rw [kx_ky, kx_ky, e, h2] at this; omega
    · exact srt_inj hp.2 a b h1 h2 e

/-! ### Turning the orders' list -/
theorem Od_push {P : Nat → Int} {rs : List Nat} {i : Nat} {p : Int} (hi : i ∉ rs) (p' : Int) : Od (upd P i p) (rs ++ [i]) p' = if p' = p then Od P rs p' ++ [i] else Od P rs p' := by
  unfold Od
  rw [List.filter_append]
  have e : rs.filter (fun j => decide (upd P i p j = p')) = rs.filter (fun j => decide (P j = p')) := by
    refine List.filter_congr (fun j hj => ?_)
    rw [upd_other _ _ _ _ (fun e => hi (by rw [← e]; exact hj))]
  rw [e]
  by_cases h : p' = p
  · rw [if_pos h]
    simp [upd_same, h]
  · rw [if_neg h]
    simp [upd_same]
    exact fun e => h e.symm
theorem Od_pull {P : Nat → Int} {A B : List Nat} {i : Nat} (p' : Int) : Od P (A ++ B) p' = Od P A p' ++ Od P B p' := by
  unfold Od; rw [List.filter_append]
theorem Od_mid {P : Nat → Int} {A B : List Nat} {i : Nat} (p' : Int) : Od P (A ++ i :: B) p' = if p' = P i then Od P A p' ++ i :: Od P B p' else Od P A p' ++ Od P B p' := by
  unfold Od
  rw [List.filter_append, List.filter_cons]
  by_cases h : p' = P i
  · rw [if_pos h, if_pos (by simp [h])]
  · rw [if_neg h, if_neg (by simpa using fun e => h (Eq.symm e))]
theorem sm_upd {Q : Nat → Int} {L : List Nat} {i : Nat} {q : Int} (hi : i ∉ L) : sm (upd Q i q) L = sm Q L := by
  unfold sm
  rw [List.map_congr_left (fun j hj => upd_other Q i q j (fun e => hi (e ▸ hj)))]
theorem sm_nonneg {Q : Nat → Int} (h : ∀ i, 0 ≤ Q i ∧ Q i < 4294967296) : ∀ (L : List Nat), 0 ≤ sm Q L ∧ sm Q L ≤ 4294967296 * (L.length : Int)
  | [] => by simp [sm]
  | a :: L => by
    have := sm_nonneg h L
    have := h a
    rw [sm_cons]
    simp only [List.length_cons, Int.natCast_add, Int.natCast_one]
    omega

/-! ### The heap's part, a cell at a time -/
structure Hp (w : World) (sb : Nat) (sc : Array Value) (ds : List Nat) (M : Nat → Lv) (cb : Nat) (X : Nat → Nat → Value) : Prop where
  blk : w.heap[sb]? = some (.cells sc 36 (0, 0))
  lvs : Lvs w ds M
  row : Row14 w cb X
  out : sb ∉ ds
  ne1 : sb ≠ cb
  ne2 : cb ∉ ds
section
variable {w : World} {sb : Nat} {sc : Array Value} {ds : List Nat} {M : Nat → Lv} {cb : Nat} {X : Nat → Nat → Value}
theorem Hp.setL (h : Hp w sb sc ds M cb X) {b : Nat} (hb : b ∈ ds) (i : Nat) (x : Value) {v' : Lv} (e : (cells (M b)).setIfInBounds i x = cells v') : Hp (w.setCell ⟨b, i, none⟩ x) sb sc ds (upd M b v') cb X :=
  ⟨(Below.heap_setCell _ _ _ _ (fun he => h.out (by have he' : sb = b := he; rw [he']; exact hb))).trans h.blk, h.lvs.set hb i x e, h.row.of (Below.heap_setCell _ _ _ _ (fun he => h.ne2 (by have he' : cb = b := he; rw [he']; exact hb))), h.out, h.ne1, h.ne2⟩
theorem Hp.setX (h : Hp w sb sc ds M cb X) {i k : Nat} (hk : k < 14) (v : Value) : Hp (w.setCell ⟨cb, i * 14 + k, none⟩ v) sb sc ds M cb (set2 X i k v) :=
  ⟨(Below.heap_setCell _ _ _ _ h.ne1).trans h.blk, fun b hb => (h.lvs b hb).of (Below.heap_setCell _ _ _ _ (fun he => h.ne2 (by have he' : b = cb := he; rw [← he']; exact hb))), h.row.set hk v, h.out, h.ne1, h.ne2⟩
theorem Hp.drewN (h : Hp w sb sc ds M cb X) (n : Nat) : Hp (w.drewN n) sb sc ds M cb X := ⟨h.blk, h.lvs, h.row, h.out, h.ne1, h.ne2⟩
theorem Hp.below {w' : World} (h : Hp w sb sc ds M cb X) (hb : Below w.heap.size w w') : Hp w' sb sc ds M cb X :=
  ⟨(hb.block sb (Array.getElem?_eq_some_iff.1 h.blk).1).trans h.blk, fun b hb' => (h.lvs b hb').of (hb.block b (h.lvs b hb').lt), h.row.of (hb.block cb h.row.lt), h.out, h.ne1, h.ne2⟩
end
/-- Outside the side, the chunk and the levels nothing that was there below lim has turned. -/
structure Stay (lim sb cb : Nat) (w w' : World) : Prop where
  os : w'.os = w.os
  tape : w'.tape = w.tape
  output : w'.output = w.output
  size : w.heap.size ≤ w'.heap.size
  block : ∀ k, k < lim → k ≠ sb → k ≠ cb → w'.heap[k]? = w.heap[k]?
theorem Stay.refl (lim sb cb : Nat) (w : World) : Stay lim sb cb w w := ⟨rfl, rfl, rfl, Nat.le_refl _, fun _ _ _ _ => rfl⟩
theorem Stay.trans {lim sb cb : Nat} {a b c : World} (h : Stay lim sb cb a b) (k : Stay lim sb cb b c) : Stay lim sb cb a c :=
  ⟨k.os.trans h.os, k.tape.trans h.tape, k.output.trans h.output, Nat.le_trans h.size k.size, fun i h1 h2 h3 => (k.block i h1 h2 h3).trans (h.block i h1 h2 h3)⟩
theorem Stay.set {lim sb cb : Nat} {a w : World} (h : Stay lim sb cb a w) {b i : Nat} {x : Value} (hb : lim ≤ b ∨ b = sb ∨ b = cb) : Stay lim sb cb a (w.setCell ⟨b, i, none⟩ x) :=
  h.trans ⟨rfl, rfl, rfl, by simp [World.setCell], fun k h1 h2 h3 => Below.heap_setCell _ _ _ _ (fun e => by have e' : k = b := e; omega)⟩
theorem Stay.drewN {lim sb cb : Nat} {a w : World} (h : Stay lim sb cb a w) (n : Nat) : Stay lim sb cb a (w.drewN n) := ⟨h.os, h.tape, h.output, h.size, h.block⟩
theorem Stay.below {lim sb cb : Nat} {a w w' : World} (h : Stay lim sb cb a w) {B : Nat} (hb : Below B w w') (hl : lim ≤ B) : Stay lim sb cb a w' :=
  h.trans ⟨hb.os, hb.tape, hb.output, hb.size, fun k h1 _ _ => hb.block k (by omega)⟩
theorem Stay.grew {lim sb cb : Nat} {a w w' : World} {ds : List Nat} (h : Stay lim sb cb a w) (hg : Grew (sb :: ds) w w') (hd : ∀ b, b ∈ ds → lim ≤ b) (hl : lim ≤ w.heap.size) : Stay lim sb cb a w' :=
  h.trans ⟨hg.os, hg.tape, hg.output, hg.size, fun k h1 h2 _ => hg.block k (by omega) (fun hc => by
    rcases List.mem_cons.1 hc with e | e
    · exact h2 e
    · have := hd k e; omega)⟩
end Go.Proofs.YbulkdilgDoor
