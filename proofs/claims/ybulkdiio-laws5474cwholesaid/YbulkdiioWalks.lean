import Derived.Test.YbulkdiioRows
import Derived.WalkKit
import Derived.WalkSpells
import Derived.WalkSmall
import Derived.ProofKit
import Derived.Below
import Derived.BigQuiet
import Derived.Deep.QuietTactic
import Derived.Deep.OwnRows
import Derived.Laws.CopyOwn
namespace Go.Proofs.Ybulkdiio.lawS5474CWhole
open Go.RowKit
set_option linter.unusedVariables false

theorem add_at (b off j : Nat) : (⟨b, off, none⟩ : Addr).add j = ⟨b, off + j, none⟩ := by
  unfold Addr.add; split <;> simp_all

theorem unpre_short (a : Option Addr) (len cap : Nat) (n : Int) (w : World) (h : (len : Int) < n) :
    Calls Yba.prog 7 #[.slice a len cap, .int .i64 n] w fun e w' => e = .returned (.slice none 0 0) ∧ w' = w := by
  go_enter Yba.func7, Yba.ntmps7
  go_wp2
  go_ret
  exact ⟨rfl, rfl⟩

theorem unpre_nil (w : World) :
    Calls Yba.prog 7 #[.slice none 0 0, .int .i64 0] w fun e w' => e = .returned (.slice none 0 0) ∧ w' = w := by
  go_enter Yba.func7, Yba.ntmps7
  go_wp2
  go_ret
  exact ⟨rfl, rfl⟩

theorem unpre_some (x : Addr) (len cap n : Nat) (w : World) (h : n ≤ len) (hl : len ≤ cap) (hc : cap ≤ maxLen) :
    Calls Yba.prog 7 #[.slice (some x) len cap, .int .i64 n] w fun e w' => e = .returned (.slice (if cap = n then some x else some (x.add n)) (len - n) (cap - n)) ∧ w' = w := by
  unfold maxLen at hc
  go_enter Yba.func7, Yba.ntmps7
  go_wp2
  all_goals
    go_ret
    exact ⟨rfl, rfl⟩

theorem unpre_lt (b off len cap n m rc : Nat) (w : World) (hlm : n + m ≤ len) (hml : len ≤ n + m) (hm : 0 < m) (hl : len ≤ cap) (hc : cap ≤ maxLen) (hr : rc = cap - n) :
    Calls Yba.prog 7 #[.slice (some ⟨b, off, none⟩) len cap, .int .i64 n] w fun e w' => e = .returned (.slice (some ⟨b, off + n, none⟩) m rc) ∧ w' = w := by
  have hx := unpre_some ⟨b, off, none⟩ len cap n w (by omega) hl hc
  rw [if_neg (by omega), add_at, show len - n = m by omega, ← hr] at hx
  exact hx

theorem info5 : (Yba.prog.info? 5).map (fun i => (i.zero, i.size, i.bytes)) = some (some (.int .u8 0), 1, 1) := by kernel_rfl
theorem size5 : (Yba.prog.info? 5).map (·.size) = some 1 := by kernel_rfl

theorem law_big (a : Option Addr) (len cap : Nat) (n : Int) (w : World) (h : 1048576 < (len : Int)) :
    Calls Yba.prog 5 #[.slice a len cap, .int .i64 n] w fun e w' => e = .returned (.bool true) ∧ Below w.heap.size w w' := by
  go_enter Yba.func5, Yba.ntmps5
  go_wp2
  go_ret
  exact ⟨rfl, Below.refl _ _⟩

theorem law_neg (a : Option Addr) (len cap : Nat) (n : Int) (w : World) (h : (len : Int) ≤ 1048576) (hn : n < 0) :
    Calls Yba.prog 5 #[.slice a len cap, .int .i64 n] w fun e w' => e = .returned (.bool true) ∧ Below w.heap.size w w' := by
  go_enter Yba.func5, Yba.ntmps5
  go_wp2
  go_ret
  exact ⟨rfl, Below.refl _ _⟩

def Bytes (zs : List Int) (len : Nat) : List Value := (zs.take len).map (Value.int .u8)
def Src (w : World) (a : Option Addr) (len : Nat) (zs : List Int) : Prop :=
  0 < len → ∃ b off, a = some ⟨b, off, none⟩ ∧ b < w.heap.size ∧ ∀ i, i < len → w.cell? ⟨b, off + i, none⟩ = some (.int .u8 (zs.getD i 0))

theorem length_Bytes (zs : List Int) (len : Nat) (h : len ≤ zs.length) : (Bytes zs len).length = len := by simp [Bytes]; omega
theorem get_Bytes (zs : List Int) (len j : Nat) (v : Value) (h : (Bytes zs len)[j]? = some v) : j < len ∧ v = .int .u8 (zs.getD j 0) := by
  simp only [Bytes, List.getElem?_map, List.getElem?_take, Option.map_eq_some_iff] at h
  obtain ⟨z, hz, rfl⟩ := h
  split at hz
  · rename_i hj; exact ⟨hj, by simp [hz]⟩
  · simp at hz
theorem bytes_one (zs : List Int) (len : Nat) : ∀ v ∈ Bytes zs len, v.oneCell' = true := by
  intro v hv; unfold Bytes at hv; rw [List.mem_map] at hv; obtain ⟨z, _, rfl⟩ := hv; rfl
theorem splice_all {α : Type} (L cs : List α) (h : L.length = cs.length) : splice L 0 cs = cs := by
  simp [splice, ← h]
theorem row_free {w : World} {g : Nat} {cs : Array Value} {t : TypeId} (h : w.heap[g]? = some (.cells cs t (0, 0))) (i : Nat) : w.frozen? ⟨g, i, none⟩ = false := by
  simp [World.frozen?, h]
theorem row_cell {w : World} {g : Nat} {zs : List Int} {len : Nat} (hl : len ≤ zs.length) (h : w.heap[g]? = some (.cells (Bytes zs len).toArray 5 (0, 0))) (i : Nat) (hi : i < len) :
    w.cell? ⟨g, i, none⟩ = some (.int .u8 (zs.getD i 0)) := by
  simp [World.cell?, h, Bytes, hi, List.getElem?_eq_getElem (show i < zs.length by omega)]

set_option maxHeartbeats 400000 in
theorem law_short (a : Option Addr) (len cap n : Nat) (zs : List Int) (w : World) (h : len ≤ 1048576) (hn : len < n) (hlz : len ≤ zs.length) (hs : Src w a len zs) :
    Calls Yba.prog 5 #[.slice a len cap, .int .i64 n] w fun e w' => e = .returned (.bool true) ∧ Below w.heap.size w w' := by
  have hmk := run_make_row' (P := Yba.prog) 26 5 (.int .u8 0) 1 Yba.underlying26 info5 rfl .i64 .i64 len (by omega) (by omega)
  have heq := fun w => Lib.run_eql_slice_nil (P := Yba.prog) w 26 5 none 0 0 0 0 Yba.underlying26
  go_enter Yba.func5, Yba.ntmps5
  go_wp2_with (first
    | (refine wpList_copy_splice rfl (.tmp 19) (.tmp 20) 26 26 rfl 5 Yba.underlying26 size5 _ _ _ _ _ _ rfl rfl w.heap.size 0 (madeCells #[.int .u8 0] len).toList 5 ?_ (Bytes zs len) ?_ ?_ ?_ (bytes_one _ _) w.heap.size w ((Below.refl _ _).alloc (Nat.le_refl _) _) (Nat.le_refl _) ?_)
    | (go_at_call 7; refine (unpre_short a len cap n _ (by omega)).mono ?_; rintro e w' ⟨rfl, rfl⟩))
  · simpa using heap_alloc_new _ _
  · simp [length_Bytes _ _ hlz]
  · rw [length_Bytes _ _ hlz]
    intro hp
    obtain ⟨b, off, rfl, hb, hc⟩ := hs hp
    refine ⟨_, rfl, fun j v hv => ?_⟩
    obtain ⟨hj, rfl⟩ := get_Bytes _ _ _ _ hv
    have e := (World.cell?_alloc_past (.cells (madeCells #[.int .u8 0] len) 5) b (off + j) hb).trans (hc j hj)
    rw [add_at]
    exact e
  · simp [length_Bytes _ _ hlz, size_madeCells]
  · intro w1 hg hb1
    replace hg := hg.out
    rw [splice_all _ _ (by simp [length_Bytes _ _ hlz, size_madeCells])] at hg
    have hrow : Hid (∀ i, i < len → w1.cell? ⟨w.heap.size, i, none⟩ = some (.int .u8 (zs.getD i 0))) := row_cell hlz hg
    have hs' : Hid (Src w a len zs) := hs
    clear hg hs
    go_wp2_with (go_at_call 7; refine (unpre_short a len cap n _ (by omega)).mono ?_; rintro e w' ⟨rfl, hw⟩; rw [hw]; clear hw w')
    go_loopw [7] (fun i wr => ∃ k q : Nat, k ≤ len ∧ i = .int .i64 k ∧ wr = w1.drewN q) (fun i _ => len - (intOf i).toNat)
    case atStart => exact ⟨0, 0, Nat.zero_le _, rfl, rfl⟩
    case round =>
      obtain ⟨k, q, hk, rfl, rfl⟩ := hrel
      by_cases hlt : k < len
      · obtain ⟨b, off, rfl, hb, hc⟩ := hs'.out (by omega)
        have c1 := (hb1.cell (p := ⟨b, off + k, none⟩) hb).trans (hc k hlt)
        have c2 := hrow.out k hlt
        clear hc hrow hs'
        go_wp2_with fail
        go_quiet (fail)
        go_wp2
        go_roundw
        case rel => exact ⟨k + 1, _, by omega, by go_num, rfl⟩
        case measure => simp [intOf]; omega
      · go_wp2
        go_ret
        exact ⟨rfl, below_drewN hb1 _⟩
set_option maxHeartbeats 1000000 in
theorem law_long (a ra : Option Addr) (len n m cap rc : Nat) (hlm : n + m ≤ len) (hml : len ≤ n + m) (t : Bool) (zs : List Int) (w : World) (h : len ≤ 1048576) (hlz : len ≤ zs.length) (hs : Src w a len zs)
    (ht : a.isNone = t) (htr : ra.isNone = t) (hra : Hid (0 < m → ∃ b off, a = some ⟨b, off, none⟩ ∧ ra = some ⟨b, off + n, none⟩))
    (hU : Hid (∀ w, Calls Yba.prog 7 #[.slice a len cap, .int .i64 n] w fun e w' => e = .returned (.slice ra m rc) ∧ w' = w)) :
    Calls Yba.prog 5 #[.slice a len cap, .int .i64 n] w fun e w' => e = .returned (.bool true) ∧ Below w.heap.size w w' := by
  have hmk := run_make_row' (P := Yba.prog) 26 5 (.int .u8 0) 1 Yba.underlying26 info5 rfl .i64 .i64 len (by omega) (by omega)
  have heq1 := fun w => Lib.run_eql_slice_nil (P := Yba.prog) w 26 5 ra m rc 0 0 Yba.underlying26
  have heq2 := fun w => Lib.run_eql_slice_nil (P := Yba.prog) w 26 5 a len cap 0 0 Yba.underlying26
  simp only [htr] at heq1
  simp only [ht] at heq2
  clear ht htr
  go_enter Yba.func5, Yba.ntmps5
  go_wp2_with (refine wpList_copy_splice rfl (.tmp 19) (.tmp 20) 26 26 rfl 5 Yba.underlying26 size5 _ _ _ _ _ _ rfl rfl w.heap.size 0 (madeCells #[.int .u8 0] len).toList 5 ?_ (Bytes zs len) ?_ ?_ ?_ (bytes_one _ _) w.heap.size w ((Below.refl _ _).alloc (Nat.le_refl _) _) (Nat.le_refl _) ?_)
  · simpa using heap_alloc_new _ _
  · simp [length_Bytes _ _ hlz]
  · rw [length_Bytes _ _ hlz]
    intro hp
    obtain ⟨b, off, rfl, hb, hc⟩ := hs hp
    refine ⟨_, rfl, fun j v hv => ?_⟩
    obtain ⟨hj, rfl⟩ := get_Bytes _ _ _ _ hv
    have e := (World.cell?_alloc_past (.cells (madeCells #[.int .u8 0] len) 5) b (off + j) hb).trans (hc j hj)
    rw [add_at]
    exact e
  · simp [length_Bytes _ _ hlz, size_madeCells]
  · intro w1 hg hb1
    replace hg := hg.out
    rw [splice_all _ _ (by simp [length_Bytes _ _ hlz, size_madeCells])] at hg
    have hrow : Hid (∀ i, i < len → w1.cell? ⟨w.heap.size, i, none⟩ = some (.int .u8 (zs.getD i 0))) := row_cell hlz hg
    have hsz : w.heap.size < w1.heap.size := (Array.getElem?_eq_some_iff.1 hg).1
    have hs' : Hid (Src w a len zs) := hs
    clear hg hs
    go_wp2_with (go_at_call 7; refine (hU.out _).mono ?_; rintro e w' ⟨rfl, hw⟩; rw [hw]; clear hw w')
    go_loopw [7] (fun i wr => ∃ k q : Nat, k ≤ len ∧ i = .int .i64 k ∧ wr = w1.drewN q) (fun i _ => len - (intOf i).toNat)
    case atStart => exact ⟨0, 0, Nat.zero_le _, rfl, rfl⟩
    case round =>
      obtain ⟨k, q, hk, rfl, rfl⟩ := hrel
      by_cases hlt : k < len
      · obtain ⟨b, off, rfl, hb, hc⟩ := hs'.out (by omega)
        have c1 := (hb1.cell (p := ⟨b, off + k, none⟩) hb).trans (hc k hlt)
        have c2 := hrow.out k hlt
        clear hc hrow hs'
        go_wp2_with fail
        go_quiet (fail)
        go_wp2
        go_roundw
        case rel => exact ⟨k + 1, _, by omega, by go_num, rfl⟩
        case measure => simp [intOf]; omega
      · go_wp2
        go_loopw [8] (fun i wr => ∃ k q : Nat, k ≤ m ∧ i = .int .i64 k ∧ wr = w1.drewN q) (fun i _ => m - (intOf i).toNat)
        case atStart => exact ⟨0, _, Nat.zero_le _, rfl, rfl⟩
        case round =>
          clear hlt hk
          obtain ⟨k, q, hk, rfl, rfl⟩ := hrel
          by_cases hlt : k < m
          · obtain ⟨b, off, rfl, rfl⟩ := hra.out (by omega)
            obtain ⟨b', off', e, hb, hc⟩ := hs'.out (by omega)
            obtain ⟨rfl, rfl⟩ : b = b' ∧ off = off' := by simpa using e
            clear e
            have c1 := (hb1.cell (p := ⟨b, off + (n + k), none⟩) hb).trans (hc (n + k) (by omega))
            rw [← Nat.add_assoc] at c1
            have hnk : (n : Int) + (k : Int) < (len : Int) := by omega
            have c2 := hrow.out (n + k) (by omega)
            clear hc hrow hs' hra hU
            go_wp2_with fail
            go_quiet (fail)
            go_wp2
            go_roundw
            case rel => exact ⟨k + 1, _, by omega, by go_num, rfl⟩
            case measure => simp [intOf]; omega
          · by_cases hm : 0 < m
            · have hb2 := below_drewN hb1 q
              have hrow2 : Hid (∀ i, i < len → (w1.drewN q).cell? ⟨w.heap.size, i, none⟩ = some (.int .u8 (zs.getD i 0))) := hrow
              have hsz2 : w.heap.size < (w1.drewN q).heap.size := hsz
              clear hrow hb1 hsz hs' hU hra heq1 heq2
              generalize w1.drewN q = w2 at *
              go_wp2_with (refine wpList_copy_splice rfl (.tmp 86) (.tmp 87) 26 26 rfl 5 Yba.underlying26 size5 _ _ _ _ _ _ rfl rfl w2.heap.size 0 (madeCells #[.int .u8 0] len).toList 5 ?_ (Bytes zs len) ?_ ?_ ?_ (bytes_one _ _) w2.heap.size w2 ((Below.refl _ _).alloc (Nat.le_refl _) _) (Nat.le_refl _) ?_)
              · simpa using heap_alloc_new _ _
              · simp [length_Bytes _ _ hlz]
              · rw [length_Bytes _ _ hlz]
                intro hp
                intro j v hv
                obtain ⟨hj, rfl⟩ := get_Bytes _ _ _ _ hv
                exact hrow2.out j hj
              · simp [length_Bytes _ _ hlz, size_madeCells]
              · intro w3 hg hb3
                replace hg := hg.out
                rw [splice_all _ _ (by simp [length_Bytes _ _ hlz, size_madeCells])] at hg
                have c3 := row_cell hlz hg n (by omega)
                have f3 := row_free hg n
                have c4 := (hb3.cell (p := ⟨w.heap.size, n, none⟩) hsz2).trans (hrow2.out n (by omega))
                have hne : ¬ w.heap.size = w2.heap.size := by omega
                have hnl : (n : Int) < (len : Int) := by omega
                clear hg
                go_wp2_with (go_at_call 7; refine (unpre_lt w2.heap.size 0 len len n m (len - n) _ hlm hml hm (Nat.le_refl _) (by unfold maxLen; omega) rfl).mono ?_; rintro e w' ⟨rfl, hw⟩; rw [hw]; clear hw w')
                go_quiet (fail)
                go_wp2
                go_ret
                exact ⟨rfl, below_drewN ((hb2.trans (hb3.mono (by omega))).setCell (by simp; omega) _) _⟩
            · go_wp2
              go_ret
              exact ⟨rfl, below_drewN hb1 _⟩
end Go.Proofs.Ybulkdiio.lawS5474CWhole
