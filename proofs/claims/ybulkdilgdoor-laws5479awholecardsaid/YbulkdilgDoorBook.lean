import Derived.Test.YbulkdilgDoorDrpC
import Derived.Test.YbulkdilgDoorEnt
namespace Go.Proofs.YbulkdilgDoor
open Go.RowKit
set_option maxRecDepth 100000
set_option linter.unusedVariables false
set_option linter.unusedSimpArgs false
set_option linter.unnecessarySimpa false

/-! ### The entries' chunk: 1024 entries of 14 cells -/
def Row14 (w : World) (cb : Nat) (X : Nat → Nat → Value) : Prop := w.rowIs cb 47 14336 (fun j => X (j / 14) (j % 14))
def set2 (X : Nat → Nat → Value) (i k : Nat) (v : Value) : Nat → Nat → Value := fun a b => if a = i ∧ b = k then v else X a b
theorem set2_same (X : Nat → Nat → Value) (i k : Nat) (v : Value) : set2 X i k v i k = v := by simp [set2]
theorem set2_other (X : Nat → Nat → Value) (i k a b : Nat) (v : Value) (h : a ≠ i ∨ b ≠ k) : set2 X i k v a b = X a b := by
  unfold set2; rw [if_neg]; rintro ⟨h1, h2⟩; rcases h with h | h <;> contradiction
theorem Row14.cell {w : World} {cb : Nat} {X : Nat → Nat → Value} (h : Row14 w cb X) {i k : Nat} (hi : i < 1024) (hk : k < 14) : w.cell? ⟨cb, i * 14 + k, none⟩ = some (X i k) := by
  have := World.rowIs.cell h (i := i * 14 + k) (by omega)
  rw [this, show (i * 14 + k) / 14 = i by omega, show (i * 14 + k) % 14 = k by omega]
theorem Row14.free {w : World} {cb : Nat} {X : Nat → Nat → Value} (h : Row14 w cb X) (k : Nat) : w.frozen? ⟨cb, k, none⟩ = false := World.rowIs.frozen h k
theorem Row14.lt {w : World} {cb : Nat} {X : Nat → Nat → Value} (h : Row14 w cb X) : cb < w.heap.size := World.rowIs.lt h
theorem Row14.of {w w' : World} {cb : Nat} {X : Nat → Nat → Value} (h : Row14 w cb X) (e : w'.heap[cb]? = w.heap[cb]?) : Row14 w' cb X := World.rowIs.of_block h e
theorem Row14.set {w : World} {cb : Nat} {X : Nat → Nat → Value} (h : Row14 w cb X) {i k : Nat} (hk : k < 14) (v : Value) : Row14 (w.setCell ⟨cb, i * 14 + k, none⟩ v) cb (set2 X i k v) := by
  refine World.rowIs.congr (World.rowIs.set h (i * 14 + k) v) ?_
  intro j hj
  show (if j = i * 14 + k then v else X (j / 14) (j % 14)) = set2 X i k v (j / 14) (j % 14)
  unfold set2
  by_cases e : j = i * 14 + k
  · subst e
    rw [if_pos rfl, if_pos ⟨by omega, by omega⟩]
  · rw [if_neg e, if_neg]
    rintro ⟨h1, h2⟩
    omega

/-! ### The orders of a price, and their chain -/
def rf : Option Nat → Int
  | none => 0
  | some i => (i : Int) + 1
theorem rf_inj {a b : Option Nat} (h : rf a = rf b) : a = b := by
  cases a <;> cases b <;> simp [rf] at h ⊢ <;> omega
def Od (P : Nat → Int) (rs : List Nat) (p : Int) : List Nat := rs.filter (fun i => decide (P i = p))
def sm (Q : Nat → Int) (L : List Nat) : Int := (L.map Q).sum
theorem sm_app (Q : Nat → Int) (A B : List Nat) : sm Q (A ++ B) = sm Q A + sm Q B := by simp [sm]
theorem sm_cons (Q : Nat → Int) (a : Nat) (B : List Nat) : sm Q (a :: B) = Q a + sm Q B := by simp [sm]
theorem Od_mem {P : Nat → Int} {rs : List Nat} {p : Int} {i : Nat} : i ∈ Od P rs p ↔ i ∈ rs ∧ P i = p := by simp [Od]
def Chn (X : Nat → Nat → Value) (L : List Nat) : Prop := ∀ A i B, L = A ++ i :: B → X i 7 = .int .u32 (rf A.getLast?) ∧ X i 8 = .int .u32 (rf B.head?)

theorem Chn.of {X X' : Nat → Nat → Value} {L : List Nat} (h : Chn X L) (e : ∀ i, i ∈ L → X' i 7 = X i 7 ∧ X' i 8 = X i 8) : Chn X' L := by
  intro A i B he
  obtain ⟨e1, e2⟩ := e i (by rw [he]; simp)
  rw [e1, e2]; exact h A i B he

/-- One more at the end. -/
theorem Chn.push {X X' : Nat → Nat → Value} {L : List Nat} {i : Nat} (h : Chn X L) (hn : (L ++ [i]).Nodup) (h1 : X' i 7 = .int .u32 (rf L.getLast?)) (h2 : X' i 8 = .int .u32 0)
    (ho : ∀ j, j ∈ L → X' j 7 = X j 7 ∧ (L.getLast? ≠ some j → X' j 8 = X j 8) ∧ (L.getLast? = some j → X' j 8 = .int .u32 ((i : Int) + 1))) : Chn X' (L ++ [i]) := by
  intro A j B e
  by_cases hj : j = i
  · subst hj
    have hB : B = [] ∧ A = L := by
      have hjL : j ∉ L := fun hc => (List.nodup_append.1 hn).2.2 j hc j (by simp) rfl
      have e' : L ++ j :: [] = A ++ j :: B := e
      have hjA : j ∉ A := by
        rw [e] at hn
        exact fun hc => (List.nodup_append.1 hn).2.2 j hc j (by simp) rfl
      obtain ⟨g1, g2⟩ := split_same e' hjL hjA
      exact ⟨g2.symm, g1.symm⟩
    obtain ⟨rfl, rfl⟩ := hB
    exact ⟨h1, h2⟩
  · obtain ⟨B', rfl⟩ : ∃ B', B = B' ++ [i] := by
      rcases List.eq_nil_or_concat B with rfl | ⟨B', x, rfl⟩
      · have := congrArg List.getLast? e
        simp at this
        exact absurd this.symm hj
      · have e2 : L ++ [i] = (A ++ j :: B') ++ [x] := by rw [e]; simp
        have := (List.append_inj' e2 rfl).2
        exact ⟨B', by simp at this; simp [this]⟩
    have e' : L = A ++ j :: B' := by
      have : L ++ [i] = (A ++ j :: B') ++ [i] := by rw [e]; simp
      exact List.append_cancel_right this
    obtain ⟨g1, g2⟩ := h A j B' e'
    obtain ⟨o1, o2, o3⟩ := ho j (by rw [e']; simp)
    refine ⟨o1.trans g1, ?_⟩
    cases B' with
    | nil =>
      rw [o3 (by rw [e']; simp)]
      simp [rf]
    | cons c r =>
      have hne : L.getLast? ≠ some j := by
        intro hc
        have hnL : L.Nodup := (List.nodup_append.1 hn).1
        rw [e'] at hc hnL
        have hm : j ∈ c :: r := by
          have : (A ++ j :: c :: r).getLast? = (c :: r).getLast? := by rw [show A ++ j :: c :: r = (A ++ [j]) ++ (c :: r) by simp, List.getLast?_append, List.getLast?_cons]; rfl
          rw [this] at hc
          exact List.mem_of_getLast? hc
        exact (List.nodup_cons.1 (List.nodup_append.1 hnL).2.1).1 hm
      rw [o2 hne, g2]
      simp

/-- One goes. -/
theorem Chn.pull {X X' : Nat → Nat → Value} {A B : List Nat} {i : Nat} (h : Chn X (A ++ i :: B)) (hn : (A ++ i :: B).Nodup)
    (ho : ∀ j, j ∈ A ++ B → (A.getLast? ≠ some j → X' j 8 = X j 8) ∧ (A.getLast? = some j → X' j 8 = .int .u32 (rf B.head?)) ∧ (B.head? ≠ some j → X' j 7 = X j 7) ∧ (B.head? = some j → X' j 7 = .int .u32 (rf A.getLast?))) : Chn X' (A ++ B) := by
  have hn0 : (i :: (A ++ B)).Nodup := (List.perm_middle.nodup_iff).1 hn
  have hnd : (A ++ B).Nodup := (List.nodup_cons.1 hn0).2
  have hX := (List.nodup_append.1 hnd).2.2
  intro C j D e
  obtain ⟨o1, o2, o3, o4⟩ := ho j (by rw [e]; simp)
  by_cases hb : j ∈ B
  · have hbx : j ∉ A := fun hc => hX j hc j hb rfl
    obtain ⟨B', e1, e2⟩ := split_left e.symm hbx
    obtain ⟨g1, g2⟩ := h (A ++ i :: B') j D (by rw [e1]; simp)
    have na : A.getLast? ≠ some j := fun hc => hbx (List.mem_of_getLast? hc)
    refine ⟨?_, (o1 na).trans g2⟩
    cases B' with
    | nil =>
      rw [o4 (by rw [e1]; rfl), e2]; simp
    | cons c r =>
      rw [o3, g1, e2]
      · simp [List.getLast?_append, List.getLast?_cons_cons]
      · intro hc
        rw [e1] at hc
        simp at hc; subst hc
        have := (List.nodup_append.1 hnd).2.1
        rw [e1] at this
        exact (List.nodup_cons.1 this).1 (by simp)
  · obtain ⟨A', e1, e2⟩ := split_right e.symm hb
    obtain ⟨g1, g2⟩ := h C j (A' ++ i :: B) (by rw [e1]; simp)
    have nb : B.head? ≠ some j := fun hc => hb (List.mem_of_head? hc)
    refine ⟨(o3 nb).trans g1, ?_⟩
    cases A' with
    | nil =>
      rw [o2 (by rw [e1]; simp), e2]; rfl
    | cons c r =>
      rw [o1, g2, e2]
      · simp
      · intro hc
        rw [e1] at hc hnd
        have hb2 : j ∈ c :: r := by
          have : (C ++ j :: c :: r).getLast? = (c :: r).getLast? := by rw [show C ++ j :: c :: r = (C ++ [j]) ++ (c :: r) by simp, List.getLast?_append, List.getLast?_cons]; rfl
          rw [this] at hc
          exact List.mem_of_getLast? hc
        have : (j :: c :: r).Nodup := (List.nodup_append.1 (List.nodup_append.1 hnd).1).2.1
        exact (List.nodup_cons.1 this).1 hb2

/-- WHAT STANDS BETWEEN TWO STEPS: the side, its entries, and the model (prices P, quantities Q of cnt orders; rs: those that rest, in order). -/
structure Book (w : World) (sb : Nat) (buy : Bool) (eb kb cb lim : Nat) (ds : List Nat) (M : Nat → Lv) (T : Tr) (X : Nat → Nat → Value) (P Q : Nat → Int) (cnt : Nat) (rs : List Nat) : Prop where
  side : Side w sb buy (some ⟨eb, 0, none⟩) ds M T
  e0 : ∃ c, w.heap[eb]? = some (.cells c 32 (0, 0)) ∧ c[0]? = some (.slice (some ⟨kb, 0, none⟩) 1 1)
  k0 : ∃ c, w.heap[kb]? = some (.cells c 28 (0, 0)) ∧ c[0]? = some (.slice (some ⟨cb, 0, none⟩) 1024 1024)
  row : Row14 w cb X
  dis : eb < sb ∧ kb < sb ∧ cb < sb ∧ eb ≠ cb ∧ kb ≠ cb ∧ sb < lim
  up : ∀ b, b ∈ ds → lim ≤ b
  cle : cnt ≤ 1024
  nod : rs.Nodup
  bnd : ∀ i, i ∈ rs → i < cnt
  qty : ∀ i, 0 ≤ Q i ∧ Q i < 4294967296
  fld : ∀ i, i < cnt → X i 1 = .int .i64 (P i) ∧ X i 2 = .int .i64 (Q i) ∧ X i 3 = .int .i64 (Q i) ∧ X i 6 = .int .u32 ((i : Int) + 1) ∧ X i 13 = .bool (decide (i ∉ rs))
  out : ∀ i, i ∉ rs → X i 7 = .int .u32 0 ∧ X i 8 = .int .u32 0
  fre : ∀ i, cnt ≤ i → i < 1024 → X i 13 = .bool false
  chn : ∀ p, Chn X (Od P rs p)
  lvl : ∀ b, b ∈ io T → Od P rs (M b).price ≠ [] ∧ data (M b) = ((M b).price, 0, sm Q (Od P rs (M b).price), ((Od P rs (M b).price).length : Int), rf (Od P rs (M b).price).head?, rf (Od P rs (M b).price).getLast?)
  cov : ∀ i, i ∈ rs → ∃ b, b ∈ io T ∧ (M b).price = P i

section
variable {w : World} {sb : Nat} {buy : Bool} {eb kb cb lim : Nat} {ds : List Nat} {M : Nat → Lv} {T : Tr} {X : Nat → Nat → Value} {P Q : Nat → Int} {cnt : Nat} {rs : List Nat}
theorem Book.rlen (h : Book w sb buy eb kb cb lim ds M T X P Q cnt rs) : rs.length ≤ 1024 := by
  have : rs.length ≤ (List.range cnt).length := by
    refine List.Nodup.length_le_of_subset h.nod ?_
    intro i hi
    exact List.mem_range.2 (h.bnd i hi)
  rw [List.length_range] at this
  have := h.cle
  omega
theorem Book.tlen (h : Book w sb buy eb kb cb lim ds M T X P Q cnt rs) : (io T).length ≤ rs.length := by
  have key : ∀ (S : List Nat), Srt buy M S → (∀ b, b ∈ S → Od P rs (M b).price ≠ []) → S.length ≤ rs.length := by
    intro S hs hne
    have hinj : ((S.map (fun b => (M b).price))).Nodup := by
      rw [List.nodup_iff_pairwise_ne, List.pairwise_map]
      refine List.Pairwise.imp ?_ hs
      intro a b hab he
      rw [kx_ky, kx_ky, he] at hab
      omega
    have hsub : ∀ p, p ∈ S.map (fun b => (M b).price) → p ∈ rs.map P := by
      intro p hp
      obtain ⟨b, hb, rfl⟩ := List.mem_map.1 hp
      have := hne b hb
      cases hO : Od P rs (M b).price with
      | nil => exact absurd hO this
      | cons i r =>
        have hi : i ∈ Od P rs (M b).price := by rw [hO]; simp
        obtain ⟨h1, h2⟩ := Od_mem.1 hi
        exact List.mem_map.2 ⟨i, h1, h2⟩
    have := List.Nodup.length_le_of_subset hinj hsub
    simpa using this
  exact key (io T) h.side.srt (fun b hb => (h.lvl b hb).1)
theorem Book.ec (h : Book w sb buy eb kb cb lim ds M T X P Q cnt rs) : w.cell? ⟨eb, 0, none⟩ = some (.slice (some ⟨kb, 0, none⟩) 1 1) := by
  obtain ⟨c, h1, h2⟩ := h.e0
  simp [World.cell?, h1, h2]
theorem Book.kc (h : Book w sb buy eb kb cb lim ds M T X P Q cnt rs) : w.cell? ⟨kb, 0, none⟩ = some (.slice (some ⟨cb, 0, none⟩) 1024 1024) := by
  obtain ⟨c, h1, h2⟩ := h.k0
  simp [World.cell?, h1, h2]
end
end Go.Proofs.YbulkdilgDoor
