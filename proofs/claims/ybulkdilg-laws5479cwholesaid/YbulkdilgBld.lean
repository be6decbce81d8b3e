import Derived.Test.YbulkdilgCommon
namespace Go.Proofs.Ybulkdilg
open Go.RowKit
set_option linter.unusedVariables false
set_option linter.unusedSimpArgs false
set_option linter.unnecessarySimpa false
set_option maxRecDepth 100000

/-- The prices, best first. -/
def pl (M : Nat → Lv) (S : List Nat) : List Int := S.reverse.map (fun b => (M b).price)
theorem pl_app (M : Nat → Lv) (xs ys : List Nat) : pl M (xs ++ ys) = pl M ys ++ pl M xs := by simp [pl]
theorem pl_len (M : Nat → Lv) (S : List Nat) : (pl M S).length = S.length := by simp [pl]
theorem pl_congr {M M' : Nat → Lv} {S : List Nat} (h : ∀ b, b ∈ S → (M' b).price = (M b).price) : pl M' S = pl M S := by
  unfold pl
  exact List.map_congr_left (fun b hb => h b (List.mem_reverse.1 hb))
theorem pl_mem {M : Nat → Lv} {S : List Nat} {p : Int} (h : p ∈ pl M S) : ∃ b, b ∈ S ∧ (M b).price = p := by
  obtain ⟨b, hb, e⟩ := List.mem_map.1 h
  exact ⟨b, List.mem_reverse.1 hb, e⟩

theorem step3 {buy : Bool} {M : Nat → Lv} (a : Int) : ∀ {S : List Nat}, Srt buy M S → ∃ xs ys, S = xs ++ ys ∧ (∀ x, x ∈ xs → bt buy a (M x).price = true) ∧ (∀ y, y ∈ ys → bt buy a (M y).price = false)
  | [], _ => ⟨[], [], rfl, fun _ h => by simp at h, fun _ h => by simp at h⟩
  | b :: S, h => by
    have hp := List.pairwise_cons.1 h
    by_cases e : bt buy a (M b).price = true
    · obtain ⟨xs, ys, e1, e2, e3⟩ := step3 a (S := S) hp.2
      refine ⟨b :: xs, ys, by rw [e1]; rfl, fun x hx => ?_, e3⟩
      rcases List.mem_cons.1 hx with rfl | hx
      · exact e
      · exact e2 x hx
    · refine ⟨[], b :: S, rfl, fun _ h => by simp at h, fun y hy => ?_⟩
      rcases List.mem_cons.1 hy with rfl | hy
      · simpa using e
      · have := hp.1 y hy
        rw [bt_ky] at e ⊢
        rw [kx_ky, kx_ky] at this
        simp at e ⊢
        omega
theorem srt_app {buy : Bool} {M : Nat → Lv} {xs ys : List Nat} (h : Srt buy M (xs ++ ys)) : Srt buy M ys := (List.pairwise_append.1 h).2.1
theorem srt_head {buy : Bool} {M : Nat → Lv} {y : Nat} {ys : List Nat} (h : Srt buy M (y :: ys)) : ∀ z, z ∈ ys → bt buy (M z).price (M y).price = true := fun z hz => by
  have := (List.pairwise_cons.1 h).1 z hz
  rw [bt_ky]; rw [kx_ky, kx_ky] at this
  simpa using this
theorem bt_trans {buy : Bool} {p q r : Int} (h : bt buy p q = true) (h2 : bt buy q r = true) : bt buy p r = true := by
  cases buy <;> simp [bt] at h h2 ⊢ <;> omega

/-- What stands between two rounds of the side's building. -/
def Bld (w0 : World) (sb : Nat) (buy : Bool) (W : List Int) (wr : World) : Prop := ∃ ds M T, Side wr sb buy none ds M T ∧ (∀ b, b ∈ ds → sb < b) ∧ pl M (io T) = W ∧ Below sb w0 wr

theorem Bld.dup {w0 : World} {sb : Nat} {buy : Bool} {W : List Int} {wr : World} (h : Bld w0 sb buy W wr) (q : Nat) : Bld w0 sb buy W (wr.drewN q) := by
  obtain ⟨ds, M, T, h1, h2, h3, h4⟩ := h
  exact ⟨ds, M, T, h1.drewN q, h2, h3, below_drewN h4 q⟩

/-- A round: what accepting answers, and what insert leaves. -/
theorem Bld.round {w0 : World} {sb : Nat} {buy : Bool} {W : List Int} {wr : World} (h : Bld w0 sb buy W wr) (hW : W.length ≤ 4199) (a : Int) : ∃ y : Option Nat,
    (Calls Yba.prog 6 #[.pointer (some ⟨sb, 0, none⟩), .int .i64 a] wr fun e w' => e = .returned (.pointer (adr y)) ∧ ∃ q, w' = wr.drewN q) ∧
    ((∃ b, y = some b ∧ wr.cell? ⟨b, 0, none⟩ = some (.int .i64 a) ∧ stp buy W a = W) ∨
     ((∀ b, y = some b → ∃ p, p ≠ a ∧ wr.cell? ⟨b, 0, none⟩ = some (.int .i64 p)) ∧
      ∀ q, Calls Yba.prog 7 #[.pointer (some ⟨sb, 0, none⟩), .int .i64 a, .pointer (adr y)] (wr.drewN q) fun e w' => (∃ v, e = .returned v) ∧ Bld w0 sb buy (stp buy W a) w')) := by
  obtain ⟨ds, M, T, hs, hd, hp, hb⟩ := h
  obtain ⟨xs, ys, e0, e1, e2⟩ := step3 a hs.srt
  have hacc : acc buy a M T none = ys.head? := by
    rw [acc_io T none xs ys e0 e1 e2]
    cases ys <;> rfl
  have hlen : (io T).length ≤ 4199 := by rw [← pl_len M, hp]; exact hW
  refine ⟨ys.head?, ?_, ?_⟩
  · rw [← hacc]
    exact accepting_c buy a sb wr ds M T hs.lvs (hs.cell 0 _ rfl) (hs.cell 1 _ rfl) hs.rep hs.sub
  · have srt := hs.srt
    rw [e0] at srt
    have iny : ∀ b, b ∈ ys → b ∈ ds := fun b hb => hs.sub b (by rw [e0]; simp [hb])
    have hdup : (∃ b, ys.head? = some b ∧ (M b).price = a) ∨ (∀ b, ys.head? = some b → (M b).price ≠ a) := by
      cases ys with
      | nil => right; intro b hb; cases hb
      | cons y ys' =>
        by_cases e : (M y).price = a
        · left; exact ⟨y, rfl, e⟩
        · right; intro b hb
          obtain rfl : y = b := by simpa using hb
          exact e
    rcases hdup with ⟨b, hb, hba⟩ | hno
    · left
      obtain ⟨ys', rfl⟩ : ∃ ys', ys = b :: ys' := by
        cases ys with
        | nil => cases hb
        | cons y ys' =>
          obtain rfl : y = b := by simpa using hb
          exact ⟨ys', rfl⟩
      refine ⟨b, rfl, ?_, ?_⟩
      · rw [(hs.lvs b (iny b (by simp))).price, hba]
      · rw [← hp, e0, pl_app, show b :: ys' = [b] ++ ys' from rfl, pl_app, List.append_assoc, show pl M [b] = [a] by simp [pl, hba]]
        refine stp_dup (fun y hy => ?_)
        obtain ⟨c, hc, rfl⟩ := pl_mem hy
        rw [← hba]
        exact srt_head (srt_app srt) c hc
    · right
      have hall : ∀ y, y ∈ ys → bt buy (M y).price a = true := by
        cases ys with
        | nil => intro y hy; simp at hy
        | cons z ys' =>
          have hz : bt buy (M z).price a = true := bt_tri (fun e => hno z rfl e.symm) (e2 z (by simp))
          intro y hy
          rcases List.mem_cons.1 hy with rfl | hy
          · exact hz
          · exact bt_trans (srt_head (srt_app srt) y hy) hz
      refine ⟨fun b hb' => ⟨(M b).price, hno b hb', (hs.lvs b (iny b (List.mem_of_head? hb'))).price⟩, fun q => ?_⟩
      refine (insert_c (hs.drewN q) e0 e1 hall hlen).mono ?_
      rintro e w' ⟨rfl, M', T', hs', hio', hd1, hd2, hg, hsz⟩
      refine ⟨⟨_, rfl⟩, wr.heap.size :: ds, M', T', hs', ?_, ?_, ?_⟩
      · intro b hb'
        rcases List.mem_cons.1 hb' with rfl | hb'
        · exact hs.lt
        · exact hd b hb'
      · have hpx : ∀ b, b ∈ ds → (M' b).price = (M b).price := fun b hb' => by have := hd2 b hb'; exact congrArg (fun t => t.1) this
        have hpl : (M' wr.heap.size).price = a := congrArg (fun t => t.1) hd1
        have e3 : stp buy W a = pl M ys ++ a :: pl M xs := by
          rw [← hp, e0, pl_app]
          refine stp_ins (fun y hy => ?_) (fun x hx => ?_)
          · obtain ⟨c, hc, rfl⟩ := pl_mem hy
            exact hall c hc
          · obtain ⟨c, hc, rfl⟩ := pl_mem hx
            exact e1 c hc
        rw [e3, hio', pl_app, show (wr.drewN q).heap.size = wr.heap.size from rfl, show wr.heap.size :: ys = [wr.heap.size] ++ ys from rfl, pl_app, List.append_assoc, show pl M' [wr.heap.size] = [a] by simp [pl, hpl],
          pl_congr (fun b hb' => hpx b (iny b hb')), pl_congr (S := xs) (fun b hb' => hpx b (hs.sub b (by rw [e0]; simp [hb'])))]
        rfl
      · have hg' : Below sb (wr.drewN q) w' := ⟨hg.os, hg.tape, hg.output, hg.size, fun k hk => hg.block k (by have := hs.lt; show k < wr.heap.size; omega) (fun hc => by
          rcases List.mem_cons.1 hc with e | e
          · omega
          · have := hd k e; omega)⟩
        exact (below_drewN hb q).trans hg'
end Go.Proofs.Ybulkdilg
