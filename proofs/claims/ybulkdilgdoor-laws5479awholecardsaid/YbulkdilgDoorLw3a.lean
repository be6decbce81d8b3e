import Derived.Test.YbulkdilgDoorLw1
import Derived.Lib.JoinLaws
namespace Go.Proofs.YbulkdilgDoor
open Go.RowKit
set_option maxRecDepth 100000
set_option linter.unusedVariables false
set_option linter.unusedSimpArgs false
set_option linter.unnecessarySimpa false

/-- The loop's body. -/
def unloop : Code → Code
  | .loop c => c
  | c => c
noncomputable def body24 : Code := unloop ((Ybad.f3.body.bind (findLoop 24)).getD .skip)
theorem info4 : (Ybad.prog.info? 4).map (fun i => (i.zero, i.size, i.bytes)) = some (some (.bool false), 1, 1) := by kernel_rfl
theorem info3 : (Ybad.prog.info? 3).map (fun i => (i.zero, i.size, i.bytes)) = some (some (.int .i64 0), 1, 8) := by kernel_rfl
theorem info44' : (Ybad.prog.info? 44).map (fun i => (i.zero, i.size, i.bytes)) = some (some (.int .i64 0), 1, 8) := by kernel_rfl

theorem below4a (w : World) (a b c d : Obj) : Below w.heap.size w ((((w.alloc a).alloc b).alloc c).alloc d) :=
  ((((Below.refl _ w).alloc (Nat.le_refl _) a).alloc (by rw [← World.alloc_eq]; simp) b).alloc (by rw [← World.alloc_eq, ← World.alloc_eq]; simp; omega) c).alloc (by rw [← World.alloc_eq, ← World.alloc_eq, ← World.alloc_eq]; simp; omega) d
section
open Go.Lib
theorem app1 {P : Program} (w : World) {ops : Array Oper} {rest : List Oper} {o : Oper} {a : Act} {Q : Exit → Act → World → Prop} (hg : o.guard = none) (s x : Operand) (t : TypeId) (hop : o.op = Op.call { callee := Callee.builtin Builtin.append, args := #[s, x], argTypes := #[t, t] })
    (e : TypeId) (z : Value) (bytes : Nat) (ht : P.underlying t = some (.slice e)) (hinfo : (P.info? e).map (fun i => (i.zero, i.size, i.bytes)) = some (some z, 1, bytes))
    (b n cap : Nat) (hs : a.eval s = .slice (some ⟨b, 0, none⟩) n cap) (ob c : Nat) (hx : a.eval x = .slice (some ⟨ob, 0, none⟩) 1 c) (v : Value) (hv : w.cell? ⟨ob, 0, none⟩ = some v) (h1 : v.oneCell' = true) (hroom : n + 1 ≤ cap)
    (hc : (w.cell? ⟨b, n, none⟩).isSome = true) (hf : w.frozen? ⟨b, n, none⟩ = false) (hK : wpList P ops Q rest (a.put o.dst (.slice (some ⟨b, 0, none⟩) (n + 1) cap)) (w.setCell ⟨b, n, none⟩ v)) : wpList P ops Q (o :: rest) a w := by
  have hsrc : Src P 1 t (.slice (some ⟨ob, 0, none⟩) 1 c) 1 [v] w := Src.ofSlice w ht ⟨ob, 0, none⟩ 1 c [v] rfl (fun j u hu => by
    cases j with
    | zero =>
      simp at hu
      rw [show (⟨ob, 0, none⟩ : Addr).add 0 = ⟨ob, 0, none⟩ by unfold Addr.add; split <;> simp_all, ← hu]; exact hv
    | succ j => simp at hu) (by simpa using h1)
  refine wpList_append_room1 w hg s x t t hop e z bytes ht hinfo b 0 n cap hs _ hx 1 [v] hsrc hroom (fun j hj => ?_) (fun j hj => ?_) ?_
  · obtain rfl : j = 0 := by simpa using hj
    rw [Nat.zero_add, Nat.add_zero]; exact hc
  · obtain rfl : j = 0 := by simpa using hj
    rw [Nat.zero_add, Nat.add_zero]; exact hf
  · rw [Nat.zero_add]; exact hK
end


set_option maxHeartbeats 8000000 in
/-- A round at an operation that adds. -/
theorem round_add (buy : Bool) (a1 : Option Addr) (n c1 : Nat) (ad : Nat → Bool) (pr qt pk : Nat → Int) (hn : n ≤ 1024) (hqt : Hid (∀ i, 0 ≤ qt i ∧ qt i < 4294967296)) (w0 wr : World) (hO : Hid (Ops w0 a1 n ad pr qt pk)) (sb eb kb cb lim pb qb lb rb nA cnt k : Nat) (hlt : k < n) (had : ad k = true) (hc : cnt < nA) (rs : List Nat)
    (hS : St w0 wr buy sb eb kb cb lim pb qb lb rb nA cnt rs) (Q : Exit → Act → World → Prop) (Kc : Act → World → Prop)
    (hK : Hid (∀ a' w' rs', St w0 w' buy sb eb kb cb lim pb qb lb rb nA (cnt + 1) rs' → a' = hC buy a1 n c1 nA sb eb pb qb lb rb (cnt + 1) rs'.length (.int .i64 ((k + 1 : Nat) : Int)) (sl a') → Kc a' w')) (R : Ending → World → Prop)
    (U : Nat → Value) : Code.wp Ybad.prog body24 (Exit.then Kc (QQ R Q)) (hC buy a1 n c1 nA sb eb pb qb lb rb cnt rs.length (.int .i64 k) U) wr := by
  conv => arg 2; whnf
  unfold hC
  have hrl := hS.rlen
  have hnAl := hS.nAl
  obtain ⟨b, off, rfl, _, c0, c1', c2, c3⟩ := (hO.out.of hS.bel) k hlt
  have hkn : (k : Int) < (n : Int) := by omega
  have hq := hqt.out k
  obtain ⟨ec, kc⟩ := hS.ec
  have hlm := hS.lm
  have hlt4 := hS.lt
  rw [had] at c0
  have hS0 := hid hS
  have C4 : ∀ w', w'.cell? ⟨eb, 0, none⟩ = some (.slice (some ⟨kb, 0, none⟩) 1 1) → w'.cell? ⟨kb, 0, none⟩ = some (.slice (some ⟨cb, 0, none⟩) 1024 1024) → Calls Ybad.prog 4 #[.pointer (some ⟨eb, 0, none⟩), .int .u32 ((cnt : Int) + 1)] w' fun e w'' => e = .returned (.pointer (some ⟨cb, cnt * 14, none⟩)) ∧ w'' = w' := fun w' h1 h2 => at_c eb kb cb cnt w' (by omega) h1 h2
  obtain ⟨ds, M, T, X, P, Q, hbk, _, _⟩ := hS.bk
  have fx := hbk.row.free
  have hcb : cb < wr.heap.size := hbk.row.lt
  have y1 := hbk.row.cell (show cnt < 1024 by omega) (show 1 < 14 by omega)
  have y2 := hbk.row.cell (show cnt < 1024 by omega) (show 2 < 14 by omega)
  have y3 := hbk.row.cell (show cnt < 1024 by omega) (show 3 < 14 by omega)
  have y6 := hbk.row.cell (show cnt < 1024 by omega) (show 6 < 14 by omega)
  have y11 := hbk.row.cell (show cnt < 1024 by omega) (show 11 < 14 by omega)
  have heb : eb < wr.heap.size := by have := hbk.dis; have := hbk.side.lt; omega
  have hkb : kb < wr.heap.size := by have := hbk.dis; have := hbk.side.lt; omega
  have hcbn : ¬ cb = wr.heap.size := by omega
  have hcbn' : ¬ wr.heap.size = cb := by omega
  have hebn : ¬ eb = wr.heap.size := by omega
  have hkbn : ¬ kb = wr.heap.size := by omega
  clear hS hbk
  have C4' := hid C4
  clear C4
  go_wp2_with (go_at_call 4; refine (C4'.out _ ?_ ?_).mono ?_; (simp [go_sem, *]); (simp [go_sem, *]); rintro e w' ⟨rfl, rfl⟩)
  refine (hS0.out.addC hc (pr k) (qt k) hq ((Below.refl _ _).alloc (Nat.le_refl _) _) (ob := wr.heap.size) (Nat.le_refl _) (by rw [← World.alloc_eq]; simp [fill, World.setCell])).mono ?_
  rintro e w2 ⟨rfl, hA, hob⟩
  have hob2 : w2.heap[wr.heap.size]? = some (.cells #[.bool true, .int .i64 (pr k), .int .u32 (qt k), .int .u16 (pk k)] 26 (0, 0)) := by
    rw [hob]
    have := heap_alloc_new (fill wr cb cnt (pr k) (qt k)) (.cells #[.bool true, .int .i64 (pr k), .int .u32 (qt k), .int .u16 (pk k)] 26)
    rw [show (fill wr cb cnt (pr k) (qt k)).heap.size = wr.heap.size by simp [fill, World.setCell]] at this
    exact this
  have o1 : w2.cell? ⟨wr.heap.size, 1, none⟩ = some (.int .i64 (pr k)) := by simp [World.cell?, hob2]
  have o2 : w2.cell? ⟨wr.heap.size, 2, none⟩ = some (.int .u32 (qt k)) := by simp [World.cell?, hob2]
  have hAA := hid hA
  obtain ⟨⟨ds2, M2, T2, X2, P2, Q2, hB2, ⟨f1, r1, _⟩, ⟨f2, r2, _⟩⟩, ⟨f3, r3, _⟩, ⟨f4, r4, _⟩, hlm2, hbl2⟩ := hA
  have z1 := r1.cell hc
  have z2 := r2.cell hc
  have z3 := r3.cell hc
  have z4 := r4.cell (show rs.length < nA by omega)
  have t1 := r1.frozen cnt
  have t2 := r2.frozen cnt
  have t3 := r3.frozen cnt
  have t4 := r4.frozen rs.length
  have u1 := r1.lt
  have u2 := r2.lt
  have u3 := r3.lt
  have u4 := r4.lt
  have hobl : wr.heap.size < w2.heap.size := (Array.getElem?_eq_some_iff.1 hob2).1
  have hwl : lim ≤ wr.heap.size := hlm
  obtain ⟨⟨na1, na2, na3, _⟩, ⟨nb1, nb2, _⟩, ⟨nc1, _⟩, _⟩ := ne8 hS0.out.dis
  have v1 : ¬ pb = wr.heap.size := by omega
  have v2 : ¬ qb = wr.heap.size := by omega
  have v3 : ¬ lb = wr.heap.size := by omega
  have v4 : ¬ rb = wr.heap.size := by omega
  have hrn : rs.length < nA := by omega
  have y1' : ∀ j, pb < w2.heap.size + j := fun j => by omega
  have y2' : ∀ j, qb < w2.heap.size + j := fun j => by omega
  have y3' : ∀ j, lb < w2.heap.size + j := fun j => by omega
  have y4' : ∀ j, rb < w2.heap.size + j := fun j => by omega
  have m1 : ¬ pb = qb := na1
  have m2 : ¬ pb = lb := na2
  have m3 : ¬ pb = rb := na3
  have m4 : ¬ qb = lb := nb1
  have m5 : ¬ qb = rb := nb2
  have m6 : ¬ lb = rb := nc1
  have m1' : ¬ qb = pb := fun e => m1 e.symm
  have m2' : ¬ lb = pb := fun e => m2 e.symm
  have m3' : ¬ rb = pb := fun e => m3 e.symm
  have m4' : ¬ lb = qb := fun e => m4 e.symm
  have m5' : ¬ rb = qb := fun e => m5 e.symm
  have m6' : ¬ rb = lb := fun e => m6 e.symm
  have v1' : ¬ wr.heap.size = pb := fun e => v1 e.symm
  have v2' : ¬ wr.heap.size = qb := fun e => v2 e.symm
  have v3' : ¬ wr.heap.size = lb := fun e => v3 e.symm
  have v4' : ¬ wr.heap.size = rb := fun e => v4 e.symm
  have q1 : ¬ pb = w2.heap.size := by omega
  have q2 : ¬ qb = w2.heap.size := by omega
  have q3 : ¬ lb = w2.heap.size := by omega
  have q4 : ¬ rb = w2.heap.size := by omega
  have hobj : ∀ j, wr.heap.size < w2.heap.size + j := fun j => by omega
  clear hob hob2 hbl2 hB2 y1 y2 y3 y6 y11 fx c0 c1' c2 c3 ec kc C4'
  go_wp2_with (first
    | (at_builtin; refine app1 _ rfl (.tmp 114) (.tmp 117) 37 rfl 44 (.int .i64 0) 8 Ybad.underlying37 info44' pb cnt nA rfl _ 1 rfl (.int .i64 (pr k)) (by simp [go_sem]) rfl (by omega) (by simp [go_sem, World.cell?_alloc_past, *]) (by simp [go_sem, World.frozen?_alloc_past, *]) ?_)
    | (at_builtin; refine app1 _ rfl (.tmp 119) (.tmp 123) 37 rfl 44 (.int .i64 0) 8 Ybad.underlying37 info44' qb cnt nA rfl _ 1 rfl (.int .i64 (qt k)) (by simp [go_sem]) rfl (by omega) (by simp [go_sem, World.cell?_alloc_past, *]) (by simp [go_sem, World.frozen?_alloc_past, *]) ?_)
    | (at_builtin; refine app1 _ rfl (.tmp 125) (.tmp 126) 38 rfl 4 (.bool false) 1 Ybad.underlying38 info4 lb cnt nA rfl _ 1 rfl (.bool false) (by simp [go_sem]) rfl (by omega) (by simp [go_sem, World.cell?_alloc_past, *]) (by simp [go_sem, World.frozen?_alloc_past, *]) ?_)
    | (at_builtin; refine app1 _ rfl (.tmp 128) (.tmp 130) 39 rfl 3 (.int .i64 0) 8 Ybad.underlying39 info3 rb rs.length nA rfl _ 1 rfl (.int .i64 (cnt : Int)) (by simp [go_sem]) rfl (by omega) (by simp [go_sem, World.cell?_alloc_past, *]) (by simp [go_sem, World.frozen?_alloc_past, *]) ?_))
  have hP := (hAA.out.push hS0.out.dis hS0.out.lt hS0.out.ge hnAl hc hrl (fun i hi => hS0.out.bnd hi)).alloc (below4a _ (.cells #[.int .i64 (pr k)] 44) (.cells #[.int .i64 (qt k)] 44) (.cells #[.bool false] 4) (.cells #[.int .i64 (cnt : Int)] 3))
  exact hK.out _ _ (rs ++ [cnt]) hP (by rw [show (rs ++ [cnt]).length = rs.length + 1 by simp]; rfl)
end Go.Proofs.YbulkdilgDoor
