import Derived.Test.YbulkdilgDoorDetach2
import Derived.Deep.LoopGhost
namespace Go.Proofs.YbulkdilgDoor
open Go.RowKit
set_option maxRecDepth 100000
set_option linter.unusedVariables false
set_option linter.unusedSimpArgs false
set_option linter.unnecessarySimpa false

/-- The worst level that p does not beat. -/
def acc (buy : Bool) (p : Int) (M : Nat → Lv) : Tr → Option Nat → Option Nat
  | .nil, f => f
  | .node b _ _ l r, f => if bt buy p (M b).price then acc buy p M r f else acc buy p M l (some b)
def sz : Tr → Nat
  | .nil => 0
  | .node _ _ _ l r => sz l + sz r + 1

/-- Parted by price: what p beats (xs, the worse), what it does not (ys): the first of ys is found. -/
theorem acc_io {buy : Bool} {p : Int} {M : Nat → Lv} : ∀ (T : Tr) (f : Option Nat) (xs ys : List Nat), io T = xs ++ ys → (∀ x, x ∈ xs → bt buy p (M x).price = true) → (∀ y, y ∈ ys → bt buy p (M y).price = false) →
    acc buy p M T f = (match ys.head? with | some y => some y | none => f) := by
  intro T
  induction T with
  | nil =>
    intro f xs ys h hx hy
    have : xs ++ ys = [] := h.symm
    obtain ⟨rfl, rfl⟩ : xs = [] ∧ ys = [] := by simpa using this
    rfl
  | node b o u L R ihL ihR =>
    intro f xs ys h hx hy
    have h' : io L ++ b :: io R = xs ++ ys := h
    unfold acc
    split
    · rename_i hb
      obtain ⟨xs', e1, e2⟩ := split_right h' (fun hc => by rw [hy b hc] at hb; cases hb)
      exact ihR f xs' ys e2 (fun x hc => hx x (by rw [e1]; simp [hc])) hy
    · rename_i hb
      obtain ⟨ys', e1, e2⟩ := split_left h' (fun hc => hb (hx b hc))
      rw [ihL (some b) xs ys' e2 hx (fun y hc => hy y (by rw [e1]; simp [hc])), e1]
      cases ys' <;> rfl

theorem ne_nil (w : World) (v : Option Addr) : (binOp .neq 34 (.pointer v) (.pointer none)).run Ybad.prog w = .ok (.bool v.isSome) w := by
  cases v
  · rfl
  · rfl

theorem accepting_c (buy : Bool) (p : Int) (sb : Nat) (w : World) (ds : List Nat) (M : Nat → Lv) (T : Tr) (h : Lvs w ds M) (cs : w.cell? ⟨sb, 0, none⟩ = some (.bool buy)) (cr : w.cell? ⟨sb, 1, none⟩ = some (.pointer (adr (root T)))) (hrep : Rep M T) (hsub : ∀ b, b ∈ io T → b ∈ ds) :
    Calls Ybad.prog 8 #[.pointer (some ⟨sb, 0, none⟩), .int .i64 p] w fun e w' => e = .returned (.pointer (adr (acc buy p M T none))) ∧ ∃ n, w' = w.drewN n := by
  have hG : Hid (Rep M T ∧ ∀ b, b ∈ io T → b ∈ ds) := ⟨hrep, hsub⟩
  have h' := hid h
  clear hrep hsub h
  go_enter Ybad.func8, Ybad.ntmps8
  go_wp2_with fail
  go_loopg [5, 6] (sz T) (fun k f l wr => ∃ (T' : Tr) (f' : Option Nat) (n : Nat), k = sz T' ∧ f = .pointer (adr f') ∧ l = .pointer (adr (root T')) ∧ wr = w.drewN n ∧ Rep M T' ∧ (∀ b, b ∈ io T' → b ∈ ds) ∧ acc buy p M T' f' = acc buy p M T none)
  case atStart => exact ⟨T, none, 0, rfl, rfl, rfl, rfl, hG.out.1, hG.out.2, rfl⟩
  case round =>
    obtain ⟨T', f', n, rfl, rfl, rfl, rfl, hrep, hsub, hacc⟩ := hrel
    cases T' with
    | nil =>
      have hacc' : Hid (f' = acc buy p M T none) := hacc
      clear hacc hrep hsub
      rw [show adr (root (.nil : Tr)) = none from rfl]
      generalize adr (root T) = x10 at *
      have hx : Hid (adr f' = adr (acc buy p M T none)) := by rw [← hacc'.out]; rfl
      clear hacc'
      generalize adr f' = x5 at *
      go_wp2
      go_ret
      exact ⟨by rw [← hx.out]; rfl, n, rfl⟩
    | node b o u L R =>
      obtain ⟨rL, rR, rH, repL, repR⟩ := hrep
      have hbd : b ∈ ds := hsub b (by simp [io])
      have Lvb := h'.out b hbd
      have c0 := Lvb.price
      have c8 := Lvb.left
      have c9 := Lvb.right
      rw [rL] at c8
      rw [rR] at c9
      have sL : Hid (∀ c, c ∈ io L → c ∈ ds) := fun c hc => hsub c (by simp [io, hc])
      have sR : Hid (∀ c, c ∈ io R → c ∈ ds) := fun c hc => hsub c (by simp [io, hc])
      have hacc' := hid hacc
      have hsz : Hid (sz (.node b o u L R) = sz L + sz R + 1) := rfl
      clear hacc hsub Lvb rL rR rH
      replace repL := hid repL
      replace repR := hid repR
      rw [show adr (root (.node b o u L R : Tr)) = some ⟨b, 0, none⟩ from rfl]
      replace c0 : (w.drewN n).cell? ⟨b, 0, none⟩ = _ := c0
      replace c8 : (w.drewN n).cell? ⟨b, 8, none⟩ = _ := c8
      replace c9 : (w.drewN n).cell? ⟨b, 9, none⟩ = _ := c9
      have cs' : (w.drewN n).cell? ⟨sb, 0, none⟩ = _ := cs
      have hw : Hid (∃ n, w.drewN n = w.drewN n) := ⟨n, rfl⟩
      generalize hwr : w.drewN n = w1 at *
      replace hwr := hid hwr
      generalize adr (root T) = x10 at *
      generalize hx5 : adr f' = x5 at *
      replace hx5 := hid hx5
      clear hw cs cr
      go_wp2_with (go_at_call 17; refine (beats_c buy sb _ _ _ cs').mono ?_; rintro e w' ⟨rfl, rfl⟩)
      · rename_i hb
        go_roundg (sz R)
        case measure => rw [hsz.out]; omega
        case rel =>
          refine ⟨R, f', n, rfl, by rw [hx5.out], rfl, hwr.out.symm, repR.out, sR.out, ?_⟩
          rw [← hacc'.out]; simp only [acc]; rw [if_pos hb]
      · rename_i hb
        replace hb := hid hb
        go_quiet (fail)
        go_wp2
        go_roundg (sz L)
        case measure => rw [hsz.out]; omega
        case rel =>
          refine ⟨L, some b, n + nq, rfl, rfl, rfl, ?_, repL.out, sL.out, ?_⟩
          · rw [← hwr.out]; simp [World.drewN, Nat.add_assoc]
          · rw [← hacc'.out]; simp only [acc]; rw [if_neg (by rw [hb.out]; simp)]
end Go.Proofs.YbulkdilgDoor
