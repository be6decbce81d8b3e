/-
  The row's step of LawS5479AWhole: over (bool, []struct), with three listed tables; the walk stands in YbulkdilgDoorMain.
-/
import Derived.Test.YbulkdilgDoorRows
import Derived.WalkKit
import Derived.ProofKit
import Derived.OpenShut
import Derived.ChangeOld
import Derived.Below
import Derived.Deep.Slices
import Derived.Handed
import Derived.JoinedOf
import Derived.LaidLaws
import Derived.Test.YbulkdilgDoorTie
import Derived.Test.YbulkdilgDoorCards
import Derived.SevenTiedAt
import Derived.Test.YbulkdilgDoorMain
namespace Go.Proofs.YbulkdilgDoor.lawS5479AWhole
open Go.ChangeShapes Go.WideShapes Go.ChangeAt Go.RowKit
set_option linter.unusedVariables false

theorem own : ownKnob Ybad.prog.godebug = none := by kernel_rfl
theorem laidOut : laidOutB Ybad.prog = true := by kernel_rfl
theorem cells26 : Ybad.prog.cellsOf 26 = 4 := by kernel_rfl
theorem cells2 : Ybad.prog.cellsOf 2 = 1 := by kernel_rfl
theorem cells4 : Ybad.prog.cellsOf 4 = 1 := by kernel_rfl
theorem cells23 : Ybad.prog.cellsOf 23 = 1 := by kernel_rfl
theorem cells24 : Ybad.prog.cellsOf 24 = 1 := by kernel_rfl

set_option maxRecDepth 100000 in
/-- The slice of operations, opened at every index. -/
theorem open_ops {H : Type} {enc : TypeId × Value → H} {W : World} {held : Bool} {fuel : Nat} {a : Option Addr} {len cap : Nat} {x : DataW H × List MemPlace}
    (h : DataW.trod enc Ybad.prog W 0 (fun _ => true) held fuel 22 [.slice a len cap] = some x) :
    ∃ ad pr qt pk, Ops W a len ad pr qt pk ∧ (∀ i, 0 ≤ qt i ∧ qt i < 4294967296) ∧ ∀ i, 0 ≤ pk i ∧ pk i < 65536 := by
  rcases Go.Deep.open_slice Ybad.underlying22 h with ⟨hcs, _⟩ | ⟨x0, l, c, m, n, D, Pl, hcs, _, hl, _, hm, _, hel⟩
  · simp only [List.cons.injEq, Value.slice.injEq, and_true] at hcs
    obtain ⟨rfl, rfl, rfl⟩ := hcs
    exact ⟨fun _ => false, fun _ => 0, fun _ => 0, fun _ => 0, fun i hi => absurd hi (Nat.not_lt_zero _), fun _ => by simp, fun _ => by simp⟩
  · simp only [List.cons.injEq, Value.slice.injEq, and_true] at hcs
    obtain ⟨rfl, e2, e3⟩ := hcs
    simp only [if_true] at hm
    have hm' : m = cap := hm.trans e3.symm
    rw [hm'] at hel
    replace hl : len ≤ cap := by omega
    have each : ∀ i, i < cap → ∃ q : Bool × Int × Int × Int, W.cell? (x0.add (i * 4)) = some (.bool q.1) ∧ W.cell? (x0.add (i * 4 + 1)) = some (.int .i64 q.2.1) ∧ W.cell? (x0.add (i * 4 + 2)) = some (.int .u32 q.2.2.1) ∧ W.cell? (x0.add (i * 4 + 3)) = some (.int .u16 q.2.2.2) ∧ (0 ≤ q.2.2.1 ∧ q.2.2.1 < 4294967296) ∧ (0 ≤ q.2.2.2 ∧ q.2.2.2 < 65536) := by
      intro i hi
      obtain ⟨cs', h1, h2⟩ := hel i hi
      rw [cells26] at h1
      obtain ⟨_, hlen, hcell⟩ := World.cells?_some h1
      obtain ⟨xs, k, _, _, _, hxl, hf⟩ := DataW.trod_struct Ybad.underlying26 h2
      match xs, hxl, cs', hlen with
      | [y0, y1, y2, y3], _, [v0, v1, v2, v3], _ =>
        have g0 := hf 0 _ rfl
        have g1 := hf 1 _ rfl
        have g2 := hf 2 _ rfl
        have g3 := hf 3 _ rfl
        simp [cells2, cells4, cells23, cells24] at g0 g1 g2 g3
        obtain ⟨b, e0, _⟩ := DataW.trod_bool Ybad.underlying4 g0
        obtain ⟨z1, e1, _, _⟩ := DataW.trod_int Ybad.underlying2 g1
        obtain ⟨z2, e2, _, w2⟩ := DataW.trod_int Ybad.underlying23 g2
        obtain ⟨z3, e3, _, w3⟩ := DataW.trod_int Ybad.underlying24 g3
        have f0 := hcell 0 (by omega)
        have f1 := hcell 1 (by omega)
        have f2 := hcell 2 (by omega)
        have f3 := hcell 3 (by omega)
        rw [Go.Deep.add_add] at f0 f1 f2 f3
        simp at e0 e1 e2 e3 f0 f1 f2 f3
        subst e0 e1 e2 e3
        have b2 : 0 ≤ z2 ∧ z2 < 4294967296 := by
          have m1 : IntKind.u32.min = 0 := rfl
          have m2 : IntKind.u32.max = 4294967295 := rfl
          simp [Lit.wf, m1, m2] at w2
          omega
        have b3 : 0 ≤ z3 ∧ z3 < 65536 := by
          have m1 : IntKind.u16.min = 0 := rfl
          have m2 : IntKind.u16.max = 65535 := rfl
          simp [Lit.wf, m1, m2] at w3
          omega
        exact ⟨(b, z1, z2, z3), f0, f1, f2, f3, b2, b3⟩
    obtain ⟨q, hq⟩ := Go.Deep.choose_lt each
    refine ⟨fun i => (q i).1, fun i => (q i).2.1, fun i => if i < cap then (q i).2.2.1 else 0, fun i => if i < cap then (q i).2.2.2 else 0, fun i hi => ?_, fun i => ?_, fun i => ?_⟩
    · obtain ⟨b, off, spot⟩ := x0
      have hi' : i < cap := Nat.lt_of_lt_of_le hi hl
      obtain ⟨c0, c1, c2, c3, _, _⟩ := hq i hi'
      have hsp : spot = none := by simpa [Addr.add] using World.cell?_spot (hq 0 (by omega)).1
      subst hsp
      rw [add_plain] at c0 c1 c2 c3
      refine ⟨b, off, rfl, World.block_lt_of_cell? _ _ c0, c0, c1, ?_, ?_⟩
      · simp only [hi', if_true]; exact c2
      · simp only [hi', if_true]; exact c3
    · by_cases hi : i < cap
      · simp only [hi, if_true]; exact (hq i hi).2.2.2.2.1
      · simp [hi]
    · by_cases hi : i < cap
      · simp only [hi, if_true]; exact (hq i hi).2.2.2.2.2
      · simp [hi]

/-! ### One start that fits: the three tables as their initialisers lay them -/
def tab10 : Array Value := #[.int .u64 1, .int .u64 10, .int .u64 100, .int .u64 1000, .int .u64 10000, .int .u64 100000, .int .u64 1000000, .int .u64 10000000, .int .u64 100000000, .int .u64 1000000000, .int .u64 10000000000, .int .u64 100000000000, .int .u64 1000000000000, .int .u64 10000000000000, .int .u64 100000000000000, .int .u64 1000000000000000, .int .u64 10000000000000000, .int .u64 100000000000000000, .int .u64 1000000000000000000, .int .u64 10000000000000000000]
def tab32 : Array Value := #[.int .u8 0, .int .u8 1, .int .u8 28, .int .u8 2, .int .u8 29, .int .u8 14, .int .u8 24, .int .u8 3, .int .u8 30, .int .u8 22, .int .u8 20, .int .u8 15, .int .u8 25, .int .u8 17, .int .u8 4, .int .u8 8, .int .u8 31, .int .u8 27, .int .u8 13, .int .u8 23, .int .u8 21, .int .u8 19, .int .u8 16, .int .u8 7, .int .u8 26, .int .u8 12, .int .u8 18, .int .u8 6, .int .u8 11, .int .u8 5, .int .u8 10, .int .u8 9]
def tab64 : Array Value := #[.int .u8 0, .int .u8 1, .int .u8 56, .int .u8 2, .int .u8 57, .int .u8 49, .int .u8 28, .int .u8 3, .int .u8 61, .int .u8 58, .int .u8 42, .int .u8 50, .int .u8 38, .int .u8 29, .int .u8 17, .int .u8 4, .int .u8 62, .int .u8 47, .int .u8 59, .int .u8 36, .int .u8 45, .int .u8 43, .int .u8 51, .int .u8 22, .int .u8 53, .int .u8 39, .int .u8 33, .int .u8 30, .int .u8 24, .int .u8 18, .int .u8 12, .int .u8 5, .int .u8 63, .int .u8 55, .int .u8 48, .int .u8 27, .int .u8 60, .int .u8 41, .int .u8 37, .int .u8 16, .int .u8 46, .int .u8 35, .int .u8 44, .int .u8 21, .int .u8 52, .int .u8 32, .int .u8 23, .int .u8 11, .int .u8 54, .int .u8 26, .int .u8 40, .int .u8 15, .int .u8 34, .int .u8 20, .int .u8 31, .int .u8 10, .int .u8 25, .int .u8 14, .int .u8 19, .int .u8 9, .int .u8 13, .int .u8 8, .int .u8 7, .int .u8 6]
noncomputable def laidWorld (os : Os) : World :=
  let w0 := World.holding Ybad.prog os ⟨#[], #[], []⟩
  { w0 with heap := ((w0.heap.modify 2 fun
      | .cells _ t frozen => .cells tab10 t frozen
      | o => o).modify 3 fun
      | .cells _ t frozen => .cells tab32 t frozen
      | o => o).modify 4 fun
      | .cells _ t frozen => .cells tab64 t frozen
      | o => o }
theorem laidWorld_met (os : Os) (args : Array Value) : laidMet Ybad.prog Rows.lawS5479AWholeRow.laid ((laidWorld os).forCall (fun _ _ => 0) ⟨#[], args, []⟩).memory :=
  laidMet_of_run (ps := MemPlace.row ⟨3, 0, none⟩ 32 ++ (MemPlace.row ⟨4, 0, none⟩ 64 ++ MemPlace.row ⟨2, 0, none⟩ 20)) 8 (by kernel_rfl) (by kernel_rfl) (by kernel_rfl)

set_option maxRecDepth 100000 in
theorem lifted (os : Os) (started : os.Started) (H : Type) (enc : TypeId × Value → H) :
    ReturnsInHanded {} Ybad.checked os 3 .any (fun w args => (Rows.lawS5479AWholeSpec.pre enc Ybad.prog Ybad.f3 Rows.lawS5479AWholeRow.domain false w args ∧ laidMet Ybad.prog Rows.lawS5479AWholeRow.laid w) ∧ sizedMet enc Ybad.prog Ybad.f3 (OpenSpec.ofChange Rows.lawS5479AWholeSpec) false w args)
      (Rows.lawS5479AWholeSpec.post enc Ybad.prog Ybad.f3 false true false false) := by
  refine returnsInHanded_of_change_and (C := Ybad.checked) (X := fun w _ => laidMet Ybad.prog Rows.lawS5479AWholeRow.laid w) (fun _ _ _ hh h => h.of_heap hh) own started (by kernel_rfl) Ybad.func3
    (ChangeSpec.witness_at (enc := enc) (C := Ybad.checked) (os := os) (X := fun w _ => laidMet Ybad.prog Rows.lawS5479AWholeRow.laid w) false (laidWorld os) #[.bool false, .slice none 0 0] 8 rfl (by kernel_rfl) (by kernel_rfl) (by kernel_rfl) (by kernel_rfl) (by kernel_rfl) (laidWorld_met os _)) ?_
  intro W base args ds gs before hval0 hW hcnd _ _ _
  have hval : ∀ (j : Nat) t v, Ybad.f3.params[j]? = some t → args[j]? = some v → Value.okWide Ybad.prog W .any base t v := hval0
  have hW' := hW
  obtain ⟨p, q, hA0, hV, rfl, hfz, hnd⟩ := hW
  have hA : DataW.TrodAll enc Ybad.prog W 0 (fun _ => true) true Ybad.f3.params.toList args.toList ds p := hA0
  rw [Ybad.params3] at hA hval
  obtain ⟨v0, vs0, d0, ds0, p0, q0, hargs, rfl, rfl, h0, r0⟩ := trodAll_cons hA
  obtain ⟨v1, vs1, d1, ds1, p1, q1, rfl, rfl, rfl, h1, r1⟩ := trodAll_cons r0
  obtain ⟨rfl, rfl, rfl⟩ := trodAll_nil r1
  obtain rfl : args = #[v0, v1] := by cases args; simp_all
  obtain ⟨rfl, rfl⟩ := trodVars_none hV
  obtain ⟨a0, rfl, rfl, rfl⟩ := open_bool Ybad.underlying4 (hval 0 4 v0 rfl rfl) h0
  obtain ⟨a1, len1, cap1, rfl⟩ := okWide_slice Ybad.underlying22 (hval 1 22 v1 rfl rfl)
  have k1 := h1
  have lt1 : ∀ x ∈ p1, x.block < W.heap.size := by obtain ⟨m, hm⟩ := k1; exact DataW.trod_lt m _ _ _ hm
  obtain ⟨ad, pr, qt, pk, hO, hq, hp⟩ : ∃ ad pr qt pk, Ops W a1 len1 ad pr qt pk ∧ (∀ i, 0 ≤ qt i ∧ qt i < 4294967296) ∧ ∀ i, 0 ≤ pk i ∧ pk i < 65536 := by
    obtain ⟨fuel, hf⟩ := h1
    exact open_ops hf
  clear hA0 hval0
  refine (law_walk a0 a1 len1 cap1 ad pr qt pk W hO hq hp).mono fun e W' ⟨he, bel⟩ => ?_
  subst he
  exact ⟨_, rfl, _, _, _, [], _, [], hW', trodAll_mk1 (shut_bool Ybad.underlying4 _), (trodAll_cons_mk (shut_bool Ybad.underlying4 _) (trodAll_cons_mk (Below.trod laidOut (by kernel_rfl) (of_decide_eq_true (by kernel_rfl)) k1 bel lt1) trodAll_mk0)), rfl, bel.frame _, fun h => by cases h⟩

theorem over : Rows.LawS5479AWholeSaid :=
  OpenClaim.holds_of_wide 3 Ybad.f3 rfl rfl rfl rfl rfl rfl rfl ⟨rfl, rfl, rfl, rfl, rfl⟩ rfl rfl rfl rfl rfl (by kernel_rfl) Ybad.func3 (by kernel_rfl)
    (of_decide_eq_true (by kernel_rfl)) (by unfold Func.isWrapper; first | (rw [if_pos (by decide +kernel)]; kernel_rfl) | (rw [if_neg (by decide +kernel)]; exact ⟨rfl, rfl⟩))
    (fun os started H enc _ => lifted os started H enc)

set_option maxRecDepth 100000 in
theorem card : Claim7.holds Ybad.pinned (.plain (OpenSpec.ofChange Rows.lawS5479AWholeSpec)) Rows.lawS5479AWholeCard :=
  Claim7.holds_tied_plain_at .later [] [.data, .data, .data] true (true, "6d8e94c971be680d3cee7ec448b4e0ceacc951b649c3bb0529500967fd5a20c6") false
    over (fun _ h => by cases h) (by kernel_rfl) (fun _ h => by cases h) lawS5479AWhole_row_tie rfl ⟨rfl, rfl⟩ (by kernel_rfl) rfl
    (fun f fn hf hfn => by
      obtain rfl : f = 3 := Option.some.inj ((show Ybad.prog.funcNamed "example.com/matchstone/matchstone.LawS5479AWhole" = some 3 by kernel_rfl).symm.trans hf) |>.symm
      obtain rfl : fn = Ybad.f3 := (Option.some.inj (Ybad.func3.symm.trans hfn)).symm
      exact ⟨by kernel_rfl, fun j t ht => by
        rw [Ybad.params3] at ht
        have h3 : t = 4 ∨ t = 22 := by
          rcases j with _ | _ | j
          · exact .inl (by simpa using ht.symm)
          · exact .inr (by simpa using ht.symm)
          · simp at ht
        rcases h3 with rfl | rfl
        · exact (show Ybad.prog.wantsStandIn 4 = false by kernel_rfl)
        · exact (show Ybad.prog.wantsStandIn 22 = false by kernel_rfl)⟩)
    (by kernel_rfl)

/-- THE STATEMENT -/
theorem proved : Rows.LawS5479AWholeCardSaid := card
#print axioms proved
end Go.Proofs.YbulkdilgDoor.lawS5479AWhole
