import Derived.Test.YbulkdilgDoorLw3a
import Derived.Test.YbulkdilgDoorR43
import Derived.Test.YbulkdilgDoorCon
import Derived.Test.YbulkdilgDoorChk
import Derived.Laws.CopyOwn
import Derived.Shelf.Spec.SlicesInsertGrow
import Derived.Lib.JoinLaws
namespace Go.Proofs.YbulkdilgDoor
open Go.RowKit
set_option maxRecDepth 100000
set_option linter.unusedVariables false
set_option linter.unusedSimpArgs false
set_option linter.unnecessarySimpa false
theorem size3 : (Ybad.prog.info? 3).map (·.size) = some 1 := by kernel_rfl
theorem copy39 (w : World) (g off dLen : Nat) (ad : Addr) (sLen : Nat) (cur cs : List Value) (hg : w.heap[g]? = some (.cells cur.toArray 3 (0, 0))) (hn : cs.length = Nat.min sLen dLen)
    (hsrc : ∀ j v, cs[j]? = some v → w.cell? (ad.add j) = some v) (hfit : off + cs.length ≤ cur.length) (h1 : ∀ v ∈ cs, v.oneCell' = true) :
    ∃ W, (∀ ty dc sc, (Builtin.copy_ #[39, 39] ty #[.slice (some ⟨g, off, none⟩) dLen dc, .slice (some ad) sLen sc]).run Ybad.prog w = .ok (goInt cs.length) W) ∧ W.heap[g]? = some (.cells (splice cur off cs).toArray 3 (0, 0)) ∧ Kept [g] w W := by
  refine ⟨_, fun ty dc sc => run_copy_row (P := Ybad.prog) w 39 39 ty 3 g off dLen dc ad sLen sc cur.toArray 3 cs Ybad.underlying39 size3 hg hn hsrc (by simpa using hfit) h1, ?_, rfl, rfl, rfl, by simp [World.setRow], fun k hk => setRow_other w g k _ (fun e => hk (by simp [e]))⟩
  simpa [splice] using setRow_heap w g _ _ 3 _ hg

/-- resting's row behind the copy. -/
theorem row_copied (w2 : World) (rb nA kk m i : Nat) (A B : List Nat) (f4 : Nat → Value) (r4 : w2.rowIs rb 3 nA f4) (g4 : ∀ (x j : Nat), (A ++ i :: B)[x]? = some j → f4 x = .int .i64 (j : Int)) (hlA : A.length = kk) (hlB : B.length = m - (kk + 1)) (hkm : kk < m) (hm : m ≤ nA) :
    ∃ (W : World) (Ad : Addr) (cl : Nat), (if nA = kk + 1 then some (⟨rb, 0, none⟩ : Addr) else some ⟨rb, kk + 1, none⟩) = some Ad ∧
      (∀ ty dc sc, (Builtin.copy_ #[39, 39] ty #[.slice (some ⟨rb, kk, none⟩) (m - kk) dc, .slice (some Ad) (m - (kk + 1)) sc]).run Ybad.prog w2.drew = .ok (goInt cl) W) ∧
      (∃ f, W.rowIs rb 3 nA f ∧ ∀ (x j : Nat), (A ++ B)[x]? = some j → f x = .int .i64 (j : Int)) ∧ Kept [rb] w2.drew W := by
  obtain ⟨c, hc4, hcs, hcc⟩ := r4
  obtain ⟨cs, hcsd⟩ : ∃ cs : List Value, cs = B.map (fun (j : Nat) => Value.int .i64 (j : Int)) := ⟨_, rfl⟩
  have hcl' : cs.length = m - (kk + 1) := by rw [hcsd, List.length_map]; exact hlB
  have hct : c.toList.length = nA := by rw [Array.length_toList]; exact hcs
  have hcget : ∀ t u, cs[t]? = some u → c[kk + 1 + t]? = some u := fun t u hu => by
    rw [hcsd, List.getElem?_map] at hu
    cases hBt : B[t]? with
    | none => rw [hBt] at hu; cases hu
    | some j =>
      rw [hBt] at hu
      have htl : t < B.length := (List.getElem?_eq_some_iff.1 hBt).1
      have h1 : (A ++ i :: B)[kk + 1 + t]? = some j := by
        rw [List.getElem?_append_right (by omega), hlA, show kk + 1 + t - kk = t + 1 by omega]; exact hBt
      rw [hcc (kk + 1 + t) (by omega), g4 (kk + 1 + t) j h1]; exact hu
  obtain ⟨Ad, hAd, hsrc⟩ : ∃ Ad : Addr, (if nA = kk + 1 then some (⟨rb, 0, none⟩ : Addr) else some ⟨rb, kk + 1, none⟩) = some Ad ∧ Hid (∀ t u, cs[t]? = some u → w2.drew.cell? (Ad.add t) = some u) := by
    by_cases h : nA = kk + 1
    · refine ⟨⟨rb, 0, none⟩, by simp [h], fun t u hu => ?_⟩
      have h0 : cs.length = 0 := by rw [hcl']; omega
      rw [List.length_eq_zero_iff.1 h0] at hu
      simp at hu
    · refine ⟨⟨rb, kk + 1, none⟩, by simp [h], fun t u hu => ?_⟩
      rw [add_at]
      show w2.cell? _ = _
      simp [World.cell?, hc4, hcget t u hu]
  have hfit : kk + cs.length ≤ c.toList.length := by omega
  have hsl : (splice c.toList kk cs).length = nA := by rw [length_splice _ _ _ hfit]; exact hct
  obtain ⟨W, hrW, hgW, hkW⟩ := copy39 w2.drew rb kk (m - kk) Ad (m - (kk + 1)) c.toList cs (by show w2.heap[rb]? = _; simpa using hc4) (by rw [hcl']; simp only [Nat.min_def]; split <;> omega) hsrc.out hfit (by rw [hcsd]; intro v hv; obtain ⟨j, _, rfl⟩ := List.mem_map.1 hv; rfl)
  refine ⟨W, Ad, cs.length, hAd, hrW, ?_, hkW⟩
  refine ⟨fun x => (splice c.toList kk cs).getD x (.int .i64 0), ⟨_, hgW, by simpa using hsl, fun x hx => ?_⟩, fun x j hx => ?_⟩
  · simp [List.getD, List.getElem?_eq_getElem (show x < (splice c.toList kk cs).length by omega)]
  · show (splice c.toList kk cs).getD x (.int .i64 0) = _
    unfold splice
    have hlt : (c.toList.take kk).length = kk := by rw [List.length_take]; omega
    by_cases hxk : x < kk
    · rw [List.getElem?_append_left (by omega)] at hx
      have h1 : (A ++ i :: B)[x]? = some j := by rw [List.getElem?_append_left (by omega)]; exact hx
      have h2 := hcc x (by omega)
      rw [g4 x j h1] at h2
      rw [List.getD, List.getElem?_append_left (by omega), List.getElem?_take, if_pos hxk]
      simp [h2]
    · rw [List.getElem?_append_right (by omega)] at hx
      have hxl : x - A.length < B.length := (List.getElem?_eq_some_iff.1 hx).1
      rw [List.getD, List.getElem?_append_right (by omega), hlt, List.getElem?_append_left (by rw [hcl']; omega), hcsd, List.getElem?_map, ← hlA, hx]; rfl

/-- resting's row behind the copy, and the state. -/
theorem StR.copied {w0 w2 : World} {buy : Bool} {sb eb kb cb lim pb qb lb rb nA cnt i kk m : Nat} {A B : List Nat} (hR : StR w0 w2 buy sb eb kb cb lim pb qb lb rb nA cnt (A ++ i :: B) A B) (hdis : [pb, qb, lb, rb, sb, eb, kb, cb].Nodup)
    (hlt : pb < lim ∧ qb < lim ∧ lb < lim ∧ rb < lim) (hge : w0.heap.size ≤ pb ∧ w0.heap.size ≤ qb ∧ w0.heap.size ≤ lb ∧ w0.heap.size ≤ rb ∧ w0.heap.size ≤ sb ∧ w0.heap.size ≤ eb ∧ w0.heap.size ≤ kb ∧ w0.heap.size ≤ cb) (hnAl : nA ≤ 1024) (hcl : cnt ≤ nA) (hni : i ∉ A ++ B)
    (hlA : A.length = kk) (hlB : B.length = m - (kk + 1)) (hkm : kk < m) (hm : m ≤ nA) (hic : i < cnt) :
    ∃ (W : World) (Ad : Addr) (cl : Nat), (if nA = kk + 1 then some (⟨rb, 0, none⟩ : Addr) else some ⟨rb, kk + 1, none⟩) = some Ad ∧
      (∀ ty dc sc, (Builtin.copy_ #[39, 39] ty #[.slice (some ⟨rb, kk, none⟩) (m - kk) dc, .slice (some Ad) (m - (kk + 1)) sc]).run Ybad.prog w2.drew = .ok (goInt cl) W) ∧
      St w0 (W.setCell ⟨lb, i, none⟩ (.bool true)) buy sb eb kb cb lim pb qb lb rb nA cnt (A ++ B) ∧ (∃ v, W.cell? ⟨lb, i, none⟩ = some v) ∧ W.frozen? ⟨lb, i, none⟩ = false := by
  obtain ⟨_, ⟨f3, r3, g3⟩, ⟨f4, r4, g4⟩, hlm2, hbl2⟩ := id hR
  obtain ⟨W, Ad, cl, hAd, hrW, hrow, hkW⟩ := row_copied w2 rb nA kk m i A B f4 r4 g4 hlA hlB hkm hm
  have nc1 : lb ≠ rb := (ne8 hdis).2.2.1.1
  have hb : W.heap[lb]? = w2.heap[lb]? := hkW.block lb (by simp; exact nc1)
  have hia : i < nA := Nat.lt_of_lt_of_le hic hcl
  have hPull := hR.pull hdis hlt hge hnAl hcl hni (W := W) ⟨hkW.os, hkW.tape, hkW.output, hkW.size⟩ (fun x hx => hkW.block x (by simp [hx])) hrow
  exact ⟨W, Ad, cl, hAd, hrW, hPull, ⟨f3 i, (World.cell?_of_block (w := w2) hb).trans (r3.cell hia)⟩, (World.frozen?_of_block (w := w2) hb).trans (r3.frozen i)⟩

set_option maxHeartbeats 8000000 in
/-- A round at an operation that removes. -/
theorem round_rem (buy : Bool) (a1 : Option Addr) (n c1 : Nat) (ad : Nat → Bool) (pr qt pk : Nat → Int) (hn : n ≤ 1024) (hpk : Hid (∀ i, 0 ≤ pk i ∧ pk i < 65536)) (w0 wr : World) (hO : Hid (Ops w0 a1 n ad pr qt pk)) (sb eb kb cb lim pb qb lb rb nA cnt k : Nat) (hlt : k < n) (had : ad k = false) (rs : List Nat)
    (hS : St w0 wr buy sb eb kb cb lim pb qb lb rb nA cnt rs) (Q : Exit → Act → World → Prop) (Kc : Act → World → Prop)
    (hK : Hid (∀ a' w' rs', St w0 w' buy sb eb kb cb lim pb qb lb rb nA cnt rs' → a' = hC buy a1 n c1 nA sb eb pb qb lb rb cnt rs'.length (.int .i64 ((k + 1 : Nat) : Int)) (sl a') → Kc a' w')) (R : Ending → World → Prop)
    (U : Nat → Value) : Code.wp Ybad.prog body24 (Exit.then Kc (QQ R Q)) (hC buy a1 n c1 nA sb eb pb qb lb rb cnt rs.length (.int .i64 k) U) wr := by
  conv => arg 2; whnf
  unfold hC
  have hrl := hS.rlen
  have hnAl := hS.nAl
  have hcl := hS.cl
  obtain ⟨b, off, rfl, _, c0, c1', c2, c3⟩ := (hO.out.of hS.bel) k hlt
  have hkn : (k : Int) < (n : Int) := by omega
  have hp := hpk.out k
  obtain ⟨ec, kc⟩ := hS.ec
  have hlm := hS.lm
  have hlt4 := hS.lt
  rw [had] at c0
  have hS1 : Hid (St w0 (wr.alloc (.cells #[.bool false, .int .i64 (pr k), .int .u32 (qt k), .int .u16 (pk k)] 26)) buy sb eb kb cb lim pb qb lb rb nA cnt rs) := hS.alloc ((Below.refl _ _).alloc (Nat.le_refl _) _)
  by_cases hr0 : rs.length = 0
  · clear hS ec kc
    rw [hr0]
    go_wp2_with fail
    exact hK.out _ _ rs hS1.out (by rw [hr0]; rfl)
  · obtain ⟨kk, hkk, hkl⟩ : ∃ kk : Nat, (pk k).tmod (rs.length : Int) = (kk : Int) ∧ kk < rs.length := by
      have h1 := Int.tmod_eq_emod_of_nonneg (b := (rs.length : Int)) hp.1
      have h2 := Int.emod_nonneg (pk k) (show (rs.length : Int) ≠ 0 by omega)
      have h3 := Int.emod_lt_of_pos (pk k) (show (0 : Int) < rs.length by omega)
      exact ⟨((pk k) % (rs.length : Int)).toNat, by omega, by omega⟩
    have hb : rs[kk]? = some (rs[kk]'hkl) := List.getElem?_eq_getElem _
    generalize (rs[kk]'hkl) = i at hb
    have hic := hS.bnd (List.mem_of_getElem? hb)
    have hspl : rs = rs.take kk ++ i :: rs.drop (kk + 1) := by
      have h2 : rs[kk] = i := (List.getElem?_eq_some_iff.1 hb).2
      rw [← h2, ← List.drop_eq_getElem_cons hkl, List.take_append_drop]
    obtain ⟨A, hA⟩ : ∃ A, A = rs.take kk := ⟨_, rfl⟩
    obtain ⟨B, hB⟩ : ∃ B, B = rs.drop (kk + 1) := ⟨_, rfl⟩
    rw [← hA, ← hB] at hspl
    have lA : A.length = kk := by rw [hA]; simp; omega
    have lB : B.length = rs.length - (kk + 1) := by rw [hB]; simp
    have cr : wr.cell? ⟨rb, kk, none⟩ = some (.int .i64 (i : Int)) := by
      obtain ⟨f, r, g⟩ := hS.rw
      rw [r.cell (by omega), g kk i hb]
    have hrbl : rb < wr.heap.size := by omega
    have hrbn : ¬ rb = wr.heap.size := by omega
    have hkkr : (kk : Int) < (rs.length : Int) := by omega
    have hm0 : ¬ (rs.length : Int) = 0 := by omega
    generalize hm : rs.length = m at *
    have hS2 := hS1.out
    rw [hspl] at hS2
    have hdis := hid (And.intro hS2.dis (And.intro hS2.lt (And.intro hS2.ge hS2.notin)))
    have C4 := hid (at_c eb kb cb i _ (by omega) hS2.ec.1 hS2.ec.2)
    have C6 := hid hS2.remC
    have hi4 : i < 1024 := by omega
    have hAB := hid (And.intro lA lB)
    clear hS ec kc hS2 hb hA hB hspl hm hS1 lA lB hr0
    generalize pk k = pkv at *
    go_wp2_with (first
      | (go_at_call 4; refine C4.out.mono ?_; rintro e w' ⟨rfl, rfl⟩)
      | (go_at_call 6; refine C6.out.mono ?_; rintro e w2 ⟨rfl, hR⟩))
    obtain ⟨W, Ad, cl, hAd, hrW, hStW, ⟨lv, l1⟩, l2⟩ := StR.copied hR hdis.out.1 hdis.out.2.1 hdis.out.2.2.1 hnAl hcl hdis.out.2.2.2 hAB.out.1 hAB.out.2 hkl (by omega) hic
    have hAd' := hid hAd
    have hrW' := hid hrW
    have hSt' := hid hStW
    have hABl : Hid ((A ++ B).length = m - 1) := by show (A ++ B).length = m - 1; rw [List.length_append, hAB.out.1, hAB.out.2]; omega
    obtain ⟨ds7, M7, T7, X7, P7, Q7, hRd⟩ := hStW.rd
    have C7 := hid (check_c sb eb buy pb qb lb rb cnt (m - 1) nA nA nA nA kb cb lim ds7 M7 T7 X7 P7 Q7 (A ++ B) hABl.out _ (hid hRd))
    have hicc : (i : Int) < (cnt : Int) := by omega
    have hmA : m ≤ nA := by omega
    clear hR hAd hrW hStW hRd hdis hAB C4 C6 hO hpk c0 c1' c2 c3
    refine wp_QR (R := R) (fun _ _ _ h => h) (reg43 buy (some ⟨b, off, none⟩) n c1 nA sb eb pb qb lb rb cnt m kk i (.int .i64 k) _ W Ad cl hkl hmA hnAl hAd'.out hrW'.out R _ ?_ _ rfl)
    intro a ha
    obtain ⟨U', rfl⟩ : ∃ U', a = hE buy (some ⟨b, off, none⟩) n c1 nA sb eb pb qb lb rb cnt m kk i (.int .i64 k) U' := ⟨_, ha⟩
    clear ha
    unfold hE
    have e7 : (m : Int) - 1 = ((m - 1 : Nat) : Int) := by omega
    have e8 : m - 1 ≤ nA := by omega
    clear hAd' hrW'
    go_wp2_with (go_at_call 7; refine C7.out.mono ?_; rintro e w9 ⟨rfl, hb9⟩)
    exact hK.out _ _ (A ++ B) (hSt'.out.alloc hb9) (by rw [hABl.out]; rfl)
end Go.Proofs.YbulkdilgDoor
