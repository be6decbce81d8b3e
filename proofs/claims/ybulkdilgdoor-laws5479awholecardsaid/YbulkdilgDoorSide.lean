import Derived.Test.YbulkdilgDoorDrp
namespace Go.Proofs.YbulkdilgDoor
open Go.RowKit
set_option maxRecDepth 100000
set_option linter.unusedVariables false
set_option linter.unusedSimpArgs false
set_option linter.unnecessarySimpa false

def sideCells (buy : Bool) (rt bs : Option Nat) (en : Option Addr) : Array Value := #[.bool buy, .pointer (adr rt), .pointer (adr bs), .pointer en]
/-- The links follow the list (worst first). -/
def Lnk (M : Nat → Lv) (S : List Nat) : Prop := ∀ A b B, S = A ++ b :: B → (M b).worse = A.getLast? ∧ (M b).better = B.head?
def data (v : Lv) : Int × Int × Int × Int × Int × Int := (v.price, v.hi, v.lo, v.orders, v.head, v.tail)

structure Side (w : World) (sb : Nat) (buy : Bool) (en : Option Addr) (ds : List Nat) (M : Nat → Lv) (T : Tr) : Prop where
  blk : w.heap[sb]? = some (.cells (sideCells buy (root T) (io T).getLast? en) 36 (0, 0))
  lvs : Lvs w ds M
  out : sb ∉ ds
  rep : Rep M T
  bal : Bal T
  sub : ∀ b, b ∈ io T → b ∈ ds
  srt : Srt buy M (io T)
  lnk : Lnk M (io T)

/-- Outside these blocks nothing that was there has turned; blocks may have come. -/
structure Grew (ds : List Nat) (w w' : World) : Prop where
  os : w'.os = w.os
  tape : w'.tape = w.tape
  output : w'.output = w.output
  size : w.heap.size ≤ w'.heap.size
  block : ∀ k, k < w.heap.size → k ∉ ds → w'.heap[k]? = w.heap[k]?
theorem Kept.grew {ds : List Nat} {w w' : World} (h : Kept ds w w') : Grew ds w w' := ⟨h.os, h.tape, h.output, by rw [h.size]; exact Nat.le_refl _, fun k _ hk => h.block k hk⟩
theorem Grew.refl (ds : List Nat) (w : World) : Grew ds w w := (Kept.refl ds w).grew
theorem Grew.trans {ds ds' : List Nat} {a b c : World} (h : Grew ds a b) (k : Grew ds' b c) (hs : ∀ x, x ∈ ds' → x < a.heap.size → x ∈ ds) : Grew ds a c :=
  ⟨k.os.trans h.os, k.tape.trans h.tape, k.output.trans h.output, Nat.le_trans h.size k.size, fun i hi hn => (k.block i (Nat.lt_of_lt_of_le hi h.size) (fun e => hn (hs i e hi))).trans (h.block i hi hn)⟩
theorem Grew.set {ds : List Nat} {a w : World} (h : Grew ds a w) {b : Nat} (hb : b ∈ ds) (i : Nat) (x : Value) : Grew ds a (w.setCell ⟨b, i, none⟩ x) :=
  h.trans ((Kept.refl ds w).set hb i x).grew (fun _ h _ => h)
theorem Grew.alloc {ds : List Nat} {a w : World} (h : Grew ds a w) (o : Obj) : Grew ds a (w.alloc o) :=
  h.trans (ds' := ds) ⟨rfl, rfl, rfl, by rw [← World.alloc_eq]; simp, fun k hk _ => Below.heap_alloc _ _ _ hk⟩ (fun _ h _ => h)

section
variable {w : World} {sb : Nat} {buy : Bool} {en : Option Addr} {ds : List Nat} {M : Nat → Lv} {T : Tr}
theorem Side.cell (h : Side w sb buy en ds M T) (i : Nat) (v : Value) (e : (sideCells buy (root T) (io T).getLast? en)[i]? = some v) : w.cell? ⟨sb, i, none⟩ = some v := by
  have := h.blk
  simp [World.cell?, this, e]
theorem Side.free (h : Side w sb buy en ds M T) (i : Nat) : w.frozen? ⟨sb, i, none⟩ = false := by
  have := h.blk
  simp [World.frozen?, this]
theorem Side.lt (h : Side w sb buy en ds M T) : sb < w.heap.size := (Array.getElem?_eq_some_iff.1 h.blk).1
theorem Side.drewN (h : Side w sb buy en ds M T) (n : Nat) : Side (w.drewN n) sb buy en ds M T := ⟨h.blk, h.lvs, h.out, h.rep, h.bal, h.sub, h.srt, h.lnk⟩
theorem Side.of {w' : World} (h : Side w sb buy en ds M T) (e : ∀ k, k ∈ sb :: ds → w'.heap[k]? = w.heap[k]?) : Side w' sb buy en ds M T :=
  ⟨(e sb (by simp)).trans h.blk, fun b hb => (h.lvs b hb).of (e b (by simp [hb])), h.out, h.rep, h.bal, h.sub, h.srt, h.lnk⟩
end

/-- The map behind the new level's linking. -/
def relink (M : Nat → Lv) (l : Nat) (v : Lv) (xs ys : List Nat) : Nat → Lv := fun b => if b = l then v else { M b with worse := if ys.head? = some b then some l else (M b).worse, better := if xs.getLast? = some b then some l else (M b).better }
theorem relink_l (M : Nat → Lv) (l : Nat) (v : Lv) (xs ys : List Nat) : relink M l v xs ys l = v := by simp [relink]
theorem relink_o (M : Nat → Lv) (l : Nat) (v : Lv) (xs ys : List Nat) (b : Nat) (h : b ≠ l) : relink M l v xs ys b = { M b with worse := if ys.head? = some b then some l else (M b).worse, better := if xs.getLast? = some b then some l else (M b).better } := by simp [relink, h]

theorem relink_lnk {M : Nat → Lv} {l : Nat} {v : Lv} {xs ys : List Nat} (h : Lnk M (xs ++ ys)) (hl : l ∉ xs ++ ys) (hn : (xs ++ ys).Nodup) (h1 : v.worse = xs.getLast?) (h2 : v.better = ys.head?) : Lnk (relink M l v xs ys) (xs ++ l :: ys) := by
  intro A b B e
  have hlx : l ∉ xs := fun hc => hl (by simp [hc])
  by_cases hb : b = l
  · subst hb
    have hA : b ∉ A := by
      have hn' : (xs ++ b :: ys).Nodup := (List.perm_middle.nodup_iff).2 (List.nodup_cons.2 ⟨hl, hn⟩)
      rw [e] at hn'
      exact fun hc => (List.nodup_append.1 hn').2.2 b hc b (by simp) rfl
    obtain ⟨rfl, rfl⟩ := split_same e hlx hA
    rw [relink_l]; exact ⟨h1, h2⟩
  · rw [relink_o _ _ _ _ _ _ hb]
    rcases split_other e.symm hb with ⟨xs', e1, e2⟩ | ⟨ys', e1, e2⟩
    · obtain ⟨g1, g2⟩ := h A b (xs' ++ ys) (by rw [e1]; simp)
      have nb : ys.head? ≠ some b := by
        intro hc
        cases ys with
        | nil => cases hc
        | cons c r =>
          simp at hc; subst hc
          rw [e1] at hn
          exact (List.nodup_append.1 hn).2.2 c (by simp) c (by simp) rfl
      refine ⟨?_, ?_⟩
      · show (if ys.head? = some b then some l else (M b).worse) = _
        rw [if_neg nb]; exact g1
      · show (if xs.getLast? = some b then some l else (M b).better) = _
        rw [e2]
        cases xs' with
        | nil => rw [e1]; simp
        | cons c r =>
          rw [if_neg, g2]
          · simp
          · intro hc
            rw [e1] at hc hn
            have hb2 : b ∈ c :: r := by
              have : (A ++ b :: c :: r).getLast? = (c :: r).getLast? := by rw [show A ++ b :: c :: r = (A ++ [b]) ++ (c :: r) by simp, List.getLast?_append, List.getLast?_cons]; rfl
              rw [this] at hc
              exact List.mem_of_getLast? hc
            have : (b :: c :: r).Nodup := (List.nodup_append.1 (List.nodup_append.1 hn).1).2.1
            exact (List.nodup_cons.1 this).1 hb2
    · obtain ⟨g1, g2⟩ := h (xs ++ ys') b B (by rw [e1]; simp)
      have nb : xs.getLast? ≠ some b := by
        intro hc
        have hbx := List.mem_of_getLast? hc
        exact (List.nodup_append.1 hn).2.2 b hbx b (by rw [e1]; simp) rfl
      refine ⟨?_, ?_⟩
      · show (if ys.head? = some b then some l else (M b).worse) = _
        rw [e2]
        cases ys' with
        | nil => rw [e1]; simp
        | cons c r =>
          rw [if_neg, g1]
          · simp [List.getLast?_append, List.getLast?_cons_cons]
          · intro hc
            rw [e1] at hc
            simp at hc; subst hc
            have := (List.nodup_append.1 hn).2.1
            rw [e1] at this
            exact (List.nodup_cons.1 this).1 (by simp)
      · show (if xs.getLast? = some b then some l else (M b).better) = _
        rw [if_neg nb]; exact g2
end Go.Proofs.YbulkdilgDoor
