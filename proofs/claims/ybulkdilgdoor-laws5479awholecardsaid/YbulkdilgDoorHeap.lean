import Derived.Test.YbulkdilgDoorTree
import Derived.Below
import Derived.WalkSmall
import Derived.Deep.Draws
namespace Go.Proofs.YbulkdilgDoor
open Go.RowKit
set_option linter.unusedVariables false

/-- The address of the level in this block. -/
def adr : Option Nat → Option Addr
  | none => none
  | some b => some ⟨b, 0, none⟩
@[simp] theorem adr_some (b : Nat) : adr (some b) = some ⟨b, 0, none⟩ := rfl
@[simp] theorem adr_none : adr none = none := rfl
theorem adr_inj {p q : Option Nat} (h : adr p = adr q) : p = q := by
  cases p <;> cases q <;> simp_all [adr]
def cells (v : Lv) : Array Value :=
  #[.int .i64 v.price, .int .u64 v.hi, .int .u64 v.lo, .int .i64 v.orders, .int .u32 v.head, .int .u32 v.tail, .pointer (adr v.worse), .pointer (adr v.better), .pointer (adr v.left), .pointer (adr v.right), .int .i8 v.height]
def Lev (w : World) (b : Nat) (v : Lv) : Prop := w.heap[b]? = some (.cells (cells v) 56 (0, 0))
def Lvs (w : World) (ds : List Nat) (M : Nat → Lv) : Prop := ∀ b, b ∈ ds → Lev w b (M b)

section
variable {w w' : World} {b : Nat} {v : Lv}
theorem Lev.at (h : Lev w b v) (i : Nat) (x : Value) (e : (cells v)[i]? = some x) : w.cell? ⟨b, i, none⟩ = some x := by
  unfold Lev at h; simp [World.cell?, h, e]
theorem Lev.price (h : Lev w b v) : w.cell? ⟨b, 0, none⟩ = some (.int .i64 v.price) := h.at 0 _ rfl
theorem Lev.worse (h : Lev w b v) : w.cell? ⟨b, 6, none⟩ = some (.pointer (adr v.worse)) := h.at 6 _ rfl
theorem Lev.better (h : Lev w b v) : w.cell? ⟨b, 7, none⟩ = some (.pointer (adr v.better)) := h.at 7 _ rfl
theorem Lev.left (h : Lev w b v) : w.cell? ⟨b, 8, none⟩ = some (.pointer (adr v.left)) := h.at 8 _ rfl
theorem Lev.right (h : Lev w b v) : w.cell? ⟨b, 9, none⟩ = some (.pointer (adr v.right)) := h.at 9 _ rfl
theorem Lev.height (h : Lev w b v) : w.cell? ⟨b, 10, none⟩ = some (.int .i8 v.height) := h.at 10 _ rfl
theorem Lev.free (h : Lev w b v) (i : Nat) : w.frozen? ⟨b, i, none⟩ = false := by
  unfold Lev at h; simp [World.frozen?, h]
theorem Lev.of (h : Lev w b v) (e : w'.heap[b]? = w.heap[b]?) : Lev w' b v := e.trans h
theorem Lev.lt (h : Lev w b v) : b < w.heap.size := (Array.getElem?_eq_some_iff.1 h).1
theorem Lev.set (h : Lev w b v) (i : Nat) (x : Value) {v' : Lv} (e : (cells v).setIfInBounds i x = cells v') : Lev (w.setCell ⟨b, i, none⟩ x) b v' := by
  unfold Lev at h ⊢
  rw [← e]
  simp [World.setCell, Array.getElem?_modify, h]
end

/-- Outside these blocks nothing has turned; no block has come. -/
structure Kept (ds : List Nat) (w w' : World) : Prop where
  os : w'.os = w.os
  tape : w'.tape = w.tape
  output : w'.output = w.output
  size : w'.heap.size = w.heap.size
  block : ∀ k, k ∉ ds → w'.heap[k]? = w.heap[k]?
theorem Kept.refl (ds : List Nat) (w : World) : Kept ds w w := ⟨rfl, rfl, rfl, rfl, fun _ _ => rfl⟩
theorem Kept.trans {ds : List Nat} {a b c : World} (h : Kept ds a b) (k : Kept ds b c) : Kept ds a c :=
  ⟨k.os.trans h.os, k.tape.trans h.tape, k.output.trans h.output, k.size.trans h.size, fun i hi => (k.block i hi).trans (h.block i hi)⟩
theorem Kept.drewN {ds : List Nat} {a b : World} (h : Kept ds a b) (n : Nat) : Kept ds a (b.drewN n) := ⟨h.os, h.tape, h.output, h.size, h.block⟩
theorem Kept.drew {ds : List Nat} {a b : World} (h : Kept ds a b) : Kept ds a b.drew := ⟨h.os, h.tape, h.output, h.size, h.block⟩
theorem Kept.set {ds : List Nat} {a w : World} (h : Kept ds a w) {b : Nat} (hb : b ∈ ds) (i : Nat) (x : Value) : Kept ds a (w.setCell ⟨b, i, none⟩ x) :=
  h.trans ⟨rfl, rfl, rfl, by simp [World.setCell], fun k hk => Below.heap_setCell _ _ _ _ (fun e => hk (e ▸ hb))⟩
theorem Kept.mono {ds ds' : List Nat} {a b : World} (h : Kept ds a b) (hs : ∀ x, x ∈ ds → x ∈ ds') : Kept ds' a b := ⟨h.os, h.tape, h.output, h.size, fun k hk => h.block k (fun e => hk (hs k e))⟩

section
variable {w w' : World} {ds : List Nat} {M : Nat → Lv}
theorem Lvs.set (h : Lvs w ds M) {b : Nat} (hb : b ∈ ds) (i : Nat) (x : Value) {v' : Lv} (e : (cells (M b)).setIfInBounds i x = cells v') : Lvs (w.setCell ⟨b, i, none⟩ x) ds (upd M b v') := by
  intro c hc
  by_cases e' : c = b
  · subst e'; rw [upd_same]; exact (h c hc).set i x e
  · rw [upd_other _ _ _ _ e']; exact (h c hc).of (Below.heap_setCell _ _ _ _ e')
theorem Lvs.drewN (h : Lvs w ds M) (n : Nat) : Lvs (w.drewN n) ds M := h
theorem Lvs.drew (h : Lvs w ds M) : Lvs w.drew ds M := h
theorem Lvs.congr {M' : Nat → Lv} (h : Lvs w ds M) (e : ∀ b, b ∈ ds → M' b = M b) : Lvs w ds M' := fun b hb => by rw [e b hb]; exact h b hb
end
end Go.Proofs.YbulkdilgDoor
