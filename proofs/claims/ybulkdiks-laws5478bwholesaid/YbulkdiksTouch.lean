import Derived.Test.YbulkdiksRows
import Derived.Test.YbulkdiksHeap
import Derived.WalkKit
import Derived.WalkSpells
import Derived.ProofKit
import Derived.BigQuiet
import Derived.Deep.QuietTactic
import Derived.Laws.CopyOwn
import Derived.Deep.Cut
import Derived.Deep.DeepCutAuto
namespace Go.Proofs.Ybulkdiks
open Go.RowKit
set_option linter.unusedVariables false
set_option linter.unusedSimpArgs false
theorem info24 : (Yba.prog.info? 24).map (fun i => (i.zero, i.size, i.bytes)) = some (some (.pointer none), 1, 8) := by kernel_rfl
theorem info46 : (Yba.prog.info? 46).map (fun i => (i.zero, i.size, i.bytes)) = some (some (.pointer none), 1, 8) := by kernel_rfl
theorem info3 : (Yba.prog.info? 3).map (fun i => (i.zero, i.size, i.bytes)) = some (some (.int .i64 0), 1, 8) := by kernel_rfl

theorem hid {p : Prop} (h : p) : Hid p := h

section
variable {w0 w : World} {bO bM bS bA bP B0 n c d : Nat} {tch : Nat → Bool} {K : Nat → Nat} {V : Nat → Value} {L : Nat → List Value} {pr : Nat → Nat} {hv : Value} {H : List Value} {E : List (Nat × Array Value)}
set_option maxHeartbeats 400000 in
theorem mtouch_yes (h : Sit w0 w bO bM bS bA bP B0 n c d tch K V L pr hv H E) {i : Nat} (hi : i < d) (hin : i < n) (hn : n ≤ 4096) (ht : tch i = true) :
    Calls Yba.prog 5 #[.pointer (some ⟨K i, 0, none⟩), .pointer (some ⟨bA, 0, none⟩)] w fun e w' => e = .returned (.tuple #[]) ∧ ∃ q, w' = w.drewN q := by
  have c2 := h.acc.cell2
  have c14 := (h.mkt i hi).2.cell14
  have c39 := h.stakes.cell39 hin
  rw [ht] at c39
  clear h
  have hin' : (i : Int) < (n : Int) := by omega
  go_enter Yba.func5, Yba.ntmps5
  go_wp2_with fail
  go_quiet (fail)
  go_wp2
  go_end0
  exact ⟨rfl, _, rfl⟩

set_option maxHeartbeats 400000 in
theorem mtouch_no (h : Sit w0 w bO bM bS bA bP B0 n c d tch K V L pr hv H E) {i : Nat} (hi : i < d) (hin : i < n) (hn : n ≤ 4096) (ht : tch i = false) (hL : (L i).length ≤ 4096) :
    Calls Yba.prog 5 #[.pointer (some ⟨K i, 0, none⟩), .pointer (some ⟨bA, 0, none⟩)] w fun e w' => e = .returned (.tuple #[]) ∧ ∃ V', Sit w0 w' bO bM bS bA bP B0 n c d (upd tch i true) K V' (upd L i (L i ++ [.pointer (some ⟨bA, 0, none⟩)])) pr hv H E := by
  have c2 := h.acc.cell2
  have c14 := (h.mkt i hi).2.cell14
  have hin' : (i : Int) < (n : Int) := by omega
  go_enter Yba.func5, Yba.ntmps5
  go_wp2_with fail
  go_quiet (fail)
  replace h := h.kept (below_drewN (Below.refl w.heap.size w) nq)
  clear c2 c14
  generalize w.drewN nq = w1 at *
  have c39 := h.stakes.cell39 hin
  rw [ht] at c39
  have f39 := h.stakes.free (i * 41 + 39)
  go_upto_region 3 with fail
  replace h := h.stake hin true
  clear c39 f39
  generalize w1.setCell ⟨bS, i * 41 + 39, none⟩ (.bool true) = w2 at *
  have c41 := (h.mkt i hi).2.cell41
  obtain ⟨i0, hi0, hz0, hz1, hz2⟩ := info_parts info24
  have hB := h.o6
  go_wp2_with (at_builtin; refine wpList_append_lies _ rfl (.tmp 27) (.tmp 29) 66 rfl B0 24 i0 (.pointer none) 1 8 Yba.underlying66 hi0 hz0 hz1 hz2 rfl (by decide) (V i) (L i).length (L i) rfl ((h.own i hi).alloc _) ⟨w2.heap.size, 0, none⟩ 1 1 [.pointer (some ⟨bA, 0, none⟩)] rfl rfl (cell_one_new _ _ _) (by simp [Value.oneCell']) (by decide) (by unfold maxLen; omega) (by omega) (by simp; omega) (w2.heap.size + 1) (by simp) ?_)
  intro g cap w3 hown hgrow hat hlt
  clear hi0 hz0 hz1 hz2 c41
  have fin := h.app hi _ _ hown hgrow hat
  have m3 : Mkt w3 (K i) i (V i) := (h.mkt i hi).2.of ((hgrow.block _ (by have := (h.mkt i hi).2.lt; simp; omega) (fun e => (h.kinds hi _ e.symm).2.2.2 i hi rfl)).trans (Below.heap_alloc _ _ _ (h.mkt i hi).2.lt))
  have c41 := m3.cell41
  have f41 := m3.free 41
  clear hown hgrow hat h m3
  go_wp2
  go_end0
  exact ⟨rfl, _, fin⟩

theorem mtouch (h : Sit w0 w bO bM bS bA bP B0 n c d tch K V L pr hv H E) {i : Nat} (hi : i < d) (hin : i < n) (hn : n ≤ 4096) (hL : (L i).length ≤ 4096) :
    Calls Yba.prog 5 #[.pointer (some ⟨K i, 0, none⟩), .pointer (some ⟨bA, 0, none⟩)] w fun e w' => e = .returned (.tuple #[]) ∧
      ∃ V', Sit w0 w' bO bM bS bA bP B0 n c d (upd tch i true) K V' (if tch i then L else upd L i (L i ++ [.pointer (some ⟨bA, 0, none⟩)])) pr hv H E := by
  cases ht : tch i with
  | true =>
    refine (mtouch_yes h hi hin hn ht).mono ?_
    rintro e w' ⟨rfl, q, rfl⟩
    have e1 : upd tch i true = tch := by
      funext j
      by_cases e : j = i
      · subst e; rw [upd_same, ht]
      · rw [upd_other _ _ _ _ e]
    rw [e1]
    exact ⟨rfl, V, by simpa using h.kept (below_drewN (Below.refl _ _) q)⟩
  | false =>
    refine (mtouch_no h hi hin hn ht hL).mono ?_
    rintro e w' ⟨rfl, V', h'⟩
    exact ⟨rfl, V', by simpa using h'⟩

def has (l : List Nat) (i : Nat) : Bool := decide (i ∈ l)
def tk (tch : Nat → Bool) (hs : List Nat) (k : Nat) : Nat → Bool := fun i => tch i || has (hs.take k) i
def Lk (tch : Nat → Bool) (L : Nat → List Value) (p : Value) (hs : List Nat) (k : Nat) : Nat → List Value := fun i => L i ++ (if !tch i && has (hs.take k) i then [p] else [])

theorem tk_zero (tch : Nat → Bool) (hs : List Nat) : tk tch hs 0 = tch := by funext i; simp [tk, has]
theorem Lk_zero (tch : Nat → Bool) (L : Nat → List Value) (p : Value) (hs : List Nat) : Lk tch L p hs 0 = L := by funext i; simp [Lk, has]
theorem take_has (hs : List Nat) (k i : Nat) (hk : k < hs.length) : has (hs.take (k + 1)) i = (has (hs.take k) i || decide (i = hs[k])) := by
  unfold has
  rw [List.take_succ_eq_append_getElem hk, Bool.eq_iff_iff]
  simp only [List.mem_append, List.mem_singleton, Bool.or_eq_true, decide_eq_true_eq]
theorem tk_succ (tch : Nat → Bool) (hs : List Nat) (k : Nat) (hk : k < hs.length) : upd (tk tch hs k) hs[k] true = tk tch hs (k + 1) := by
  funext i
  unfold tk upd
  rw [take_has hs k i hk]
  by_cases e : i = hs[k]
  · simp [e]
  · simp [e]
theorem Lk_succ (tch : Nat → Bool) (L : Nat → List Value) (p : Value) (hs : List Nat) (k : Nat) (hk : k < hs.length) :
    (if tk tch hs k hs[k] then Lk tch L p hs k else upd (Lk tch L p hs k) hs[k] (Lk tch L p hs k hs[k] ++ [p])) = Lk tch L p hs (k + 1) := by
  funext i
  unfold tk Lk upd
  rw [take_has hs k i hk]
  by_cases e : i = hs[k]
  · rw [e]
    cases h1 : tch hs[k] <;> cases h2 : has (hs.take k) hs[k] <;> simp [h1, h2]
  · cases h1 : tch hs[k] <;> cases h2 : has (hs.take k) hs[k] <;> simp [e, h1, h2]
theorem Lk_len (tch : Nat → Bool) (L : Nat → List Value) (p : Value) (hs : List Nat) (k i : Nat) : (Lk tch L p hs k i).length ≤ (L i).length + 1 := by
  unfold Lk
  split <;> simp

theorem Sit.shape (h : Sit w0 w bO bM bS bA bP B0 n c d tch K V L pr hv H E) : ∃ ao cap, hv = .slice ao H.length cap ∧ (0 < H.length → ∃ g, ao = some ⟨g, 0, none⟩) := by
  rcases h.hold.2 with ⟨e, e0⟩ | ⟨g, cap, cur, e, _⟩
  · exact ⟨none, 0, by rw [e, e0], fun h => by omega⟩
  · exact ⟨_, cap, e, fun _ => ⟨g, rfl⟩⟩

theorem Sit.heldCell {g l cap : Nat} (h : Sit w0 w bO bM bS bA bP B0 n c d tch K V L pr (.slice (some ⟨g, 0, none⟩) l cap) H E) {k : Nat} (hk : k < H.length) : w.cell? ⟨g, k, none⟩ = some H[k] := by
  have := h.hold.cells (g := g) rfl k H[k] (List.getElem?_eq_getElem hk)
  rwa [Addr.add_mid, Nat.zero_add] at this

set_option maxHeartbeats 400000 in
theorem atouch (h : Sit w0 w bO bM bS bA bP B0 n c n tch K V L pr hv H E) (hn : n ≤ 4096) (hL : ∀ i, i < n → (L i).length ≤ 3) (hs : List Nat) (hlen : hs.length ≤ 4096) (hH : H = hs.map (fun i => .pointer (some ⟨K i, 0, none⟩))) (hb : ∀ i, i ∈ hs → i < n) :
    Calls Yba.prog 4 #[.pointer (some ⟨bA, 0, none⟩)] w fun e w' => e = .returned (.tuple #[]) ∧
      ∃ V', Sit w0 w' bO bM bS bA bP B0 n c n (tk tch hs hs.length) K V' (Lk tch L (.pointer (some ⟨bA, 0, none⟩)) hs hs.length) pr hv H E := by
  obtain ⟨ao, cap, rfl, hao⟩ := h.shape
  have hHl : H.length = hs.length := by rw [hH]; simp
  rw [hHl] at hao
  have hH' : Hid (H = hs.map (fun i => .pointer (some ⟨K i, 0, none⟩))) := hH
  have c3 := h.acc.cell3
  have hl1 : Hid (H.length = hs.length) := hHl
  rw [hHl] at c3
  have hl2 : (H.length : Int) ≤ 4096 := by omega
  clear hH
  go_enter Yba.func4, Yba.ntmps4
  go_wp2_with fail
  go_loopw [9] (fun i wr => ∃ k V', k ≤ hs.length ∧ i = .int .i64 k ∧ Sit w0 wr bO bM bS bA bP B0 n c n (tk tch hs k) K V' (Lk tch L (.pointer (some ⟨bA, 0, none⟩)) hs k) pr (.slice ao H.length cap) H E) (fun i _ => hs.length - (intOf i).toNat)
  case atStart => exact ⟨0, V, Nat.zero_le _, rfl, by rw [tk_zero, Lk_zero]; exact h⟩
  case round =>
    clear h c3
    obtain ⟨k, V', hk, rfl, hr⟩ := hrel
    by_cases hlt : k < hs.length
    · obtain ⟨g, rfl⟩ := hao (by omega)
      have hkn : hs[k] < n := hb _ (List.getElem_mem hlt)
      have hc := hr.heldCell (k := k) (by rw [hl1.out]; exact hlt)
      have hHk : H[k]'(by rw [hl1.out]; exact hlt) = .pointer (some ⟨K hs[k], 0, none⟩) := by simp [hH'.out]
      rw [hHk] at hc
      clear hHk
      have T := tk_succ tch hs k hlt
      have U := Lk_succ tch L (.pointer (some ⟨bA, 0, none⟩)) hs k hlt
      have HM := mtouch hr hkn hkn hn (by have h1 := Lk_len tch L (.pointer (some ⟨bA, 0, none⟩)) hs k hs[k]; have h2 := hL _ hkn; omega)
      rw [T, U] at HM
      have HM' := hid HM
      clear HM T U hr
      go_wp2_with (go_at_call 5; refine HM'.out.mono ?_; rintro e w' ⟨rfl, V'', hr2⟩)
      clear HM'
      go_roundw
      case rel => exact ⟨k + 1, V'', by omega, by go_num, hr2⟩
      case measure => simp [intOf]; omega
    · obtain rfl : k = hs.length := by omega
      go_wp2
      go_end0
      exact ⟨rfl, V', hr⟩
end
end Go.Proofs.Ybulkdiks
