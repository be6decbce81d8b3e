import Derived.Test.YbulkdilgDoorAttach
import Derived.LaidEqlPtr
namespace Go.Proofs.YbulkdilgDoor
open Go.RowKit
set_option linter.unusedVariables false
set_option linter.unusedSimpArgs false
set_option linter.unnecessarySimpa false

theorem info41 : (Ybad.prog.info? 56).map (fun j => decide (j.size ≠ 0)) = some true := by kernel_rfl
theorem eql_ptr {w : World} {a b : Nat} {ca cb : Array Value} {ta tb : TypeId} (ha : w.heap[a]? = some (.cells ca ta (0, 0))) (hb : w.heap[b]? = some (.cells cb tb (0, 0))) :
    (binOp .eql 34 (.pointer (some ⟨a, 0, none⟩)) (.pointer (some ⟨b, 0, none⟩))).run Ybad.prog w = .ok (.bool (decide (a = b))) w := by
  obtain ⟨j, hj, hs⟩ := Option.map_eq_some_iff.1 info41
  by_cases e : a = b
  · subst e
    rw [run_eql_ptr_same w _ Ybad.underlying34 hj]
    simp
  · rw [run_eql_ptr_other w (a := ⟨a, 0, none⟩) (b := ⟨b, 0, none⟩) Ybad.underlying34 hj (by simpa using hs) (by intro h; apply e; simpa using h) ha hb]
    simp [e]

section
variable {w : World} {ds : List Nat} {M : Nat → Lv}

theorem eql_same (a : Nat) (w : World) : (binOp .eql 34 (.pointer (some ⟨a, 0, none⟩)) (.pointer (some ⟨a, 0, none⟩))).run Ybad.prog w = .ok (.bool true) w := by
  obtain ⟨j, hj, hs⟩ := Option.map_eq_some_iff.1 info41
  exact run_eql_ptr_same w _ Ybad.underlying34 hj

/-- l is the root and has no worse level below it. -/
theorem detach_a (sb l : Nat) (xr : Option Addr) (w : World) (c8 : w.cell? ⟨l, 8, none⟩ = some (.pointer none)) (c9 : w.cell? ⟨l, 9, none⟩ = some (.pointer xr)) :
    Calls Ybad.prog 22 #[.pointer (some ⟨sb, 0, none⟩), .pointer (some ⟨l, 0, none⟩), .pointer (some ⟨l, 0, none⟩)] w fun e w' => e = .returned (.pointer xr) ∧ w' = w := by
  have he := eql_same l
  go_enter Ybad.func22, Ybad.ntmps22
  go_wp2
  go_ret
  exact ⟨rfl, rfl⟩
theorem detach_b (sb l xl : Nat) (w : World) (c8 : w.cell? ⟨l, 8, none⟩ = some (.pointer (some ⟨xl, 0, none⟩))) (c9 : w.cell? ⟨l, 9, none⟩ = some (.pointer none)) :
    Calls Ybad.prog 22 #[.pointer (some ⟨sb, 0, none⟩), .pointer (some ⟨l, 0, none⟩), .pointer (some ⟨l, 0, none⟩)] w fun e w' => e = .returned (.pointer (some ⟨xl, 0, none⟩)) ∧ w' = w := by
  have he := eql_same l
  go_enter Ybad.func22, Ybad.ntmps22
  go_wp2
  go_ret
  exact ⟨rfl, rfl⟩
/-- l is the root, with levels on both sides: its better neighbour takes its place. -/
theorem detach_n (sb l xl xr nx : Nat) (w : World) (Z : Option Addr → World → Prop) (Y : Option Addr → World → Prop)
    (c8 : w.cell? ⟨l, 8, none⟩ = some (.pointer (some ⟨xl, 0, none⟩))) (c9 : w.cell? ⟨l, 9, none⟩ = some (.pointer (some ⟨xr, 0, none⟩))) (c7 : w.cell? ⟨l, 7, none⟩ = some (.pointer (some ⟨nx, 0, none⟩))) (hne : nx ≠ l)
    (C1 : Hid (Calls Ybad.prog 22 #[.pointer (some ⟨sb, 0, none⟩), .pointer (some ⟨xr, 0, none⟩), .pointer (some ⟨nx, 0, none⟩)] w fun e w' => ∃ x, e = .returned (.pointer x) ∧ Z x w'))
    (F1 : Hid (∀ x w', Z x w' → w'.cell? ⟨l, 8, none⟩ = some (.pointer (some ⟨xl, 0, none⟩)) ∧ (∃ v, w'.cell? ⟨nx, 9, none⟩ = some v) ∧ w'.frozen? ⟨nx, 9, none⟩ = false ∧ (∃ v, w'.cell? ⟨nx, 8, none⟩ = some v) ∧ w'.frozen? ⟨nx, 8, none⟩ = false))
    (C2 : Hid (∀ x w', Z x w' → Calls Ybad.prog 24 #[.pointer (some ⟨nx, 0, none⟩)] ((w'.setCell ⟨nx, 9, none⟩ (.pointer x)).setCell ⟨nx, 8, none⟩ (.pointer (some ⟨xl, 0, none⟩))) fun e w'' => ∃ y, e = .returned (.pointer y) ∧ Y y w'')) :
    Calls Ybad.prog 22 #[.pointer (some ⟨sb, 0, none⟩), .pointer (some ⟨l, 0, none⟩), .pointer (some ⟨l, 0, none⟩)] w fun e w' => ∃ y, e = .returned (.pointer y) ∧ Y y w' := by
  have he := eql_same l
  have hne' : ¬ nx = l := hne
  go_enter Ybad.func22, Ybad.ntmps22
  go_wp2_with fail
  refine C1.out.mono ?_
  rintro e w2 ⟨x, rfl, hz⟩
  obtain ⟨d8, ⟨v, d9⟩, f9, ⟨v', e8⟩, f8⟩ := F1.out x w2 hz
  have D := hid (C2.out x w2 hz)
  clear C1 C2 F1 c9 c8 c7 he
  go_wp2_with fail
  refine D.out.mono ?_
  rintro e w3 ⟨y, rfl, hy⟩
  clear D
  go_wp2
  go_ret
  exact ⟨y, rfl, hy⟩
/-- l lies on the better side of the root b. -/
theorem detach_r (buy : Bool) (sb b l : Nat) (xr : Option Addr) (pl pb : Int) (w : World) (Z : Option Addr → World → Prop) (Y : Option Addr → World → Prop)
    (he : ∀ n, (binOp .eql 34 (.pointer (some ⟨b, 0, none⟩)) (.pointer (some ⟨l, 0, none⟩))).run Ybad.prog (w.drewN n) = .ok (.bool false) (w.drewN n))
    (cs : w.cell? ⟨sb, 0, none⟩ = some (.bool buy)) (cl : w.cell? ⟨l, 0, none⟩ = some (.int .i64 pl)) (cb : w.cell? ⟨b, 0, none⟩ = some (.int .i64 pb)) (c9 : w.cell? ⟨b, 9, none⟩ = some (.pointer xr)) (hbt : bt buy pl pb = true)
    (C1 : Hid (∀ n, Calls Ybad.prog 22 #[.pointer (some ⟨sb, 0, none⟩), .pointer xr, .pointer (some ⟨l, 0, none⟩)] (w.drewN n) fun e w' => ∃ x, e = .returned (.pointer x) ∧ Z x w'))
    (F1 : Hid (∀ x w', Z x w' → (∃ v, w'.cell? ⟨b, 9, none⟩ = some v) ∧ w'.frozen? ⟨b, 9, none⟩ = false))
    (C2 : Hid (∀ x w', Z x w' → Calls Ybad.prog 24 #[.pointer (some ⟨b, 0, none⟩)] (w'.setCell ⟨b, 9, none⟩ (.pointer x)) fun e w'' => ∃ y, e = .returned (.pointer y) ∧ Y y w'')) :
    Calls Ybad.prog 22 #[.pointer (some ⟨sb, 0, none⟩), .pointer (some ⟨b, 0, none⟩), .pointer (some ⟨l, 0, none⟩)] w fun e w' => ∃ y, e = .returned (.pointer y) ∧ Y y w' := by
  have HB := hid hbt
  have he0 : (binOp .eql 34 (.pointer (some ⟨b, 0, none⟩)) (.pointer (some ⟨l, 0, none⟩))).run Ybad.prog w = .ok (.bool false) w := he 0
  clear hbt he
  go_enter Ybad.func22, Ybad.ntmps22
  go_wp2_with fail
  go_quiet ((go_at_call 17; exact Calls.quiet_of_same (beats_c buy sb pl pb _ cs)))
  rw [HB.out]
  replace c9 : (w.drewN nq).cell? ⟨b, 9, none⟩ = _ := c9
  have C1' := hid (C1.out nq)
  clear C1 cs cl cb he0
  generalize w.drewN nq = w1 at *
  go_wp2_with fail
  refine C1'.out.mono ?_
  rintro e w2 ⟨x, rfl, hz⟩
  obtain ⟨⟨v, c⟩, f⟩ := F1.out x w2 hz
  have D := hid (C2.out x w2 hz)
  clear C1' C2 F1 c9
  go_wp2_with fail
  refine D.out.mono ?_
  rintro e w3 ⟨y, rfl, hy⟩
  clear D c f
  go_wp2
  go_ret
  exact ⟨y, rfl, hy⟩
/-- l lies on the worse side of the root b. -/
theorem detach_l (buy : Bool) (sb b l : Nat) (xr : Option Addr) (pl pb : Int) (w : World) (Z : Option Addr → World → Prop) (Y : Option Addr → World → Prop)
    (he : ∀ n, (binOp .eql 34 (.pointer (some ⟨b, 0, none⟩)) (.pointer (some ⟨l, 0, none⟩))).run Ybad.prog (w.drewN n) = .ok (.bool false) (w.drewN n))
    (cs : w.cell? ⟨sb, 0, none⟩ = some (.bool buy)) (cl : w.cell? ⟨l, 0, none⟩ = some (.int .i64 pl)) (cb : w.cell? ⟨b, 0, none⟩ = some (.int .i64 pb)) (c9 : w.cell? ⟨b, 8, none⟩ = some (.pointer xr)) (hbt : bt buy pl pb = false)
    (C1 : Hid (∀ n, Calls Ybad.prog 22 #[.pointer (some ⟨sb, 0, none⟩), .pointer xr, .pointer (some ⟨l, 0, none⟩)] (w.drewN n) fun e w' => ∃ x, e = .returned (.pointer x) ∧ Z x w'))
    (F1 : Hid (∀ x w', Z x w' → (∃ v, w'.cell? ⟨b, 8, none⟩ = some v) ∧ w'.frozen? ⟨b, 8, none⟩ = false))
    (C2 : Hid (∀ x w', Z x w' → Calls Ybad.prog 24 #[.pointer (some ⟨b, 0, none⟩)] (w'.setCell ⟨b, 8, none⟩ (.pointer x)) fun e w'' => ∃ y, e = .returned (.pointer y) ∧ Y y w'')) :
    Calls Ybad.prog 22 #[.pointer (some ⟨sb, 0, none⟩), .pointer (some ⟨b, 0, none⟩), .pointer (some ⟨l, 0, none⟩)] w fun e w' => ∃ y, e = .returned (.pointer y) ∧ Y y w' := by
  have HB := hid hbt
  have he0 : (binOp .eql 34 (.pointer (some ⟨b, 0, none⟩)) (.pointer (some ⟨l, 0, none⟩))).run Ybad.prog w = .ok (.bool false) w := he 0
  clear hbt he
  go_enter Ybad.func22, Ybad.ntmps22
  go_wp2_with fail
  go_quiet ((go_at_call 17; exact Calls.quiet_of_same (beats_c buy sb pl pb _ cs)))
  rw [HB.out]
  replace c9 : (w.drewN nq).cell? ⟨b, 8, none⟩ = _ := c9
  have C1' := hid (C1.out nq)
  clear C1 cs cl cb he0
  generalize w.drewN nq = w1 at *
  go_wp2_with fail
  refine C1'.out.mono ?_
  rintro e w2 ⟨x, rfl, hz⟩
  obtain ⟨⟨v, c⟩, f⟩ := F1.out x w2 hz
  have D := hid (C2.out x w2 hz)
  clear C1' C2 F1 c9
  go_wp2_with fail
  refine D.out.mono ?_
  rintro e w3 ⟨y, rfl, hy⟩
  clear D c f
  go_wp2
  go_ret
  exact ⟨y, rfl, hy⟩
end
end Go.Proofs.YbulkdilgDoor
