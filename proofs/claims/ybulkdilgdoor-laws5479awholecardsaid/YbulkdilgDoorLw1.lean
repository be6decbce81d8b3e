import Derived.Test.YbulkdilgDoorSt3
namespace Go.Proofs.YbulkdilgDoor
open Go.RowKit
set_option maxRecDepth 100000
set_option linter.unusedVariables false
set_option linter.unusedSimpArgs false
set_option linter.unnecessarySimpa false

/-- What the script's operations hold. -/
def Ops (w : World) (a : Option Addr) (n : Nat) (ad : Nat → Bool) (pr qt pk : Nat → Int) : Prop := ∀ i, i < n → ∃ b off, a = some ⟨b, off, none⟩ ∧ b < w.heap.size ∧ w.cell? ⟨b, off + i * 4, none⟩ = some (.bool (ad i)) ∧ w.cell? ⟨b, off + i * 4 + 1, none⟩ = some (.int .i64 (pr i)) ∧ w.cell? ⟨b, off + i * 4 + 2, none⟩ = some (.int .u32 (qt i)) ∧ w.cell? ⟨b, off + i * 4 + 3, none⟩ = some (.int .u16 (pk i))
theorem Ops.of {w w' : World} {a : Option Addr} {n : Nat} {ad : Nat → Bool} {pr qt pk : Nat → Int} (h : Ops w a n ad pr qt pk) (hb : Below w.heap.size w w') : Ops w' a n ad pr qt pk := fun i hi => by
  obtain ⟨b, off, h1, h2, h3, h4, h5, h6⟩ := h i hi
  exact ⟨b, off, h1, Nat.lt_of_lt_of_le h2 hb.size, (hb.cell (p := ⟨b, off + i * 4, none⟩) h2).trans h3, (hb.cell (p := ⟨b, off + i * 4 + 1, none⟩) h2).trans h4, (hb.cell (p := ⟨b, off + i * 4 + 2, none⟩) h2).trans h5, (hb.cell (p := ⟨b, off + i * 4 + 3, none⟩) h2).trans h6⟩
/-- How many of the first k are adds. -/
def na (ad : Nat → Bool) : Nat → Nat
  | 0 => 0
  | k + 1 => na ad k + (if ad k then 1 else 0)
theorem na_le (ad : Nat → Bool) : ∀ k, na ad k ≤ k
  | 0 => Nat.le_refl _
  | k + 1 => by
    have := na_le ad k
    unfold na
    split <;> omega
theorem na_mono (ad : Nat → Bool) {j k : Nat} (h : j ≤ k) : na ad j ≤ na ad k := by
  induction h with
  | refl => exact Nat.le_refl _
  | step h ih => exact Nat.le_trans ih (by rw [na]; omega)

def hA (buy : Bool) (a1 : Option Addr) (n c1 : Nat) (x5 x27 : Value) (U : Nat → Value) : Act := ⟨List.toArray (.bool buy :: .slice a1 n c1 :: U 2 :: U 3 :: U 4 :: x5 :: U 6 :: U 7 :: U 8 :: U 9 :: U 10 :: U 11 :: U 12 :: U 13 :: U 14 :: U 15 :: U 16 :: U 17 :: U 18 :: U 19 :: U 20 :: U 21 :: U 22 :: U 23 :: U 24 :: .slice a1 n c1 :: .int .i64 n :: x27 :: U 28 :: U 29 :: U 30 :: U 31 :: U 32 :: U 33 :: U 34 :: U 35 :: U 36 :: U 37 :: U 38 :: U 39 :: U 40 :: U 41 :: U 42 :: U 43 :: U 44 :: U 45 :: U 46 :: U 47 :: U 48 :: U 49 :: U 50 :: U 51 :: U 52 :: U 53 :: U 54 :: U 55 :: U 56 :: U 57 :: U 58 :: U 59 :: U 60 :: U 61 :: U 62 :: U 63 :: U 64 :: U 65 :: U 66 :: U 67 :: U 68 :: U 69 :: U 70 :: U 71 :: U 72 :: U 73 :: U 74 :: U 75 :: U 76 :: U 77 :: U 78 :: U 79 :: U 80 :: U 81 :: U 82 :: U 83 :: U 84 :: U 85 :: U 86 :: U 87 :: U 88 :: U 89 :: U 90 :: U 91 :: U 92 :: U 93 :: U 94 :: U 95 :: U 96 :: U 97 :: U 98 :: U 99 :: U 100 :: U 101 :: U 102 :: U 103 :: U 104 :: U 105 :: U 106 :: U 107 :: U 108 :: U 109 :: U 110 :: U 111 :: U 112 :: U 113 :: U 114 :: U 115 :: U 116 :: U 117 :: U 118 :: U 119 :: U 120 :: U 121 :: U 122 :: U 123 :: U 124 :: U 125 :: U 126 :: U 127 :: U 128 :: U 129 :: U 130 :: U 131 :: U 132 :: U 133 :: U 134 :: U 135 :: U 136 :: U 137 :: U 138 :: U 139 :: U 140 :: U 141 :: U 142 :: U 143 :: U 144 :: U 145 :: U 146 :: U 147 :: U 148 :: U 149 :: U 150 :: U 151 :: U 152 :: U 153 :: U 154 :: U 155 :: U 156 :: U 157 :: U 158 :: U 159 :: U 160 :: U 161 :: U 162 :: U 163 :: U 164 :: U 165 :: U 166 :: U 167 :: U 168 :: U 169 :: U 170 :: U 171 :: U 172 :: U 173 :: U 174 :: U 175 :: U 176 :: U 177 :: []), []⟩
def hB (buy : Bool) (a1 : Option Addr) (n c1 nA kb : Nat) (x46 : Value) (U : Nat → Value) : Act := ⟨List.toArray (.bool buy :: .slice a1 n c1 :: U 2 :: U 3 :: U 4 :: .int .i64 nA :: U 6 :: U 7 :: .slice (some ⟨kb, 0, none⟩) 1 1 :: U 9 :: U 10 :: U 11 :: U 12 :: U 13 :: U 14 :: U 15 :: U 16 :: U 17 :: U 18 :: U 19 :: U 20 :: U 21 :: U 22 :: U 23 :: U 24 :: U 25 :: U 26 :: U 27 :: U 28 :: U 29 :: U 30 :: U 31 :: U 32 :: U 33 :: U 34 :: U 35 :: U 36 :: U 37 :: U 38 :: U 39 :: U 40 :: U 41 :: U 42 :: U 43 :: U 44 :: .int .i64 1 :: x46 :: U 47 :: U 48 :: U 49 :: U 50 :: U 51 :: U 52 :: U 53 :: U 54 :: U 55 :: U 56 :: U 57 :: U 58 :: U 59 :: U 60 :: U 61 :: U 62 :: U 63 :: U 64 :: U 65 :: U 66 :: U 67 :: U 68 :: U 69 :: U 70 :: U 71 :: U 72 :: U 73 :: U 74 :: U 75 :: U 76 :: U 77 :: U 78 :: U 79 :: U 80 :: U 81 :: U 82 :: U 83 :: U 84 :: U 85 :: U 86 :: U 87 :: U 88 :: U 89 :: U 90 :: U 91 :: U 92 :: U 93 :: U 94 :: U 95 :: U 96 :: U 97 :: U 98 :: U 99 :: U 100 :: U 101 :: U 102 :: U 103 :: U 104 :: U 105 :: U 106 :: U 107 :: U 108 :: U 109 :: U 110 :: U 111 :: U 112 :: U 113 :: U 114 :: U 115 :: U 116 :: U 117 :: U 118 :: U 119 :: U 120 :: U 121 :: U 122 :: U 123 :: U 124 :: U 125 :: U 126 :: U 127 :: U 128 :: U 129 :: U 130 :: U 131 :: U 132 :: U 133 :: U 134 :: U 135 :: U 136 :: U 137 :: U 138 :: U 139 :: U 140 :: U 141 :: U 142 :: U 143 :: U 144 :: U 145 :: U 146 :: U 147 :: U 148 :: U 149 :: U 150 :: U 151 :: U 152 :: U 153 :: U 154 :: U 155 :: U 156 :: U 157 :: U 158 :: U 159 :: U 160 :: U 161 :: U 162 :: U 163 :: U 164 :: U 165 :: U 166 :: U 167 :: U 168 :: U 169 :: U 170 :: U 171 :: U 172 :: U 173 :: U 174 :: U 175 :: U 176 :: U 177 :: []), []⟩
def hC (buy : Bool) (a1 : Option Addr) (n c1 nA sb eb pb qb lb rb cnt rn : Nat) (x72 : Value) (U : Nat → Value) : Act := ⟨List.toArray (.bool buy :: U 1 :: U 2 :: U 3 :: U 4 :: .int .i64 nA :: U 6 :: U 7 :: U 8 :: U 9 :: .pointer (some ⟨eb, 0, none⟩) :: .pointer (some ⟨sb, 0, none⟩) :: .slice (some ⟨pb, 0, none⟩) cnt nA :: .slice (some ⟨qb, 0, none⟩) cnt nA :: .slice (some ⟨lb, 0, none⟩) cnt nA :: .slice (some ⟨rb, 0, none⟩) rn nA :: U 16 :: U 17 :: U 18 :: U 19 :: U 20 :: U 21 :: U 22 :: U 23 :: U 24 :: U 25 :: U 26 :: U 27 :: U 28 :: U 29 :: U 30 :: U 31 :: U 32 :: U 33 :: U 34 :: U 35 :: U 36 :: U 37 :: U 38 :: U 39 :: U 40 :: U 41 :: U 42 :: U 43 :: U 44 :: U 45 :: U 46 :: U 47 :: U 48 :: U 49 :: U 50 :: U 51 :: U 52 :: U 53 :: U 54 :: U 55 :: U 56 :: U 57 :: U 58 :: U 59 :: U 60 :: U 61 :: U 62 :: U 63 :: U 64 :: U 65 :: U 66 :: U 67 :: U 68 :: U 69 :: .slice a1 n c1 :: .int .i64 n :: x72 :: U 73 :: U 74 :: U 75 :: U 76 :: U 77 :: U 78 :: U 79 :: U 80 :: U 81 :: U 82 :: U 83 :: U 84 :: U 85 :: U 86 :: U 87 :: U 88 :: U 89 :: U 90 :: U 91 :: U 92 :: U 93 :: U 94 :: U 95 :: U 96 :: U 97 :: U 98 :: U 99 :: U 100 :: U 101 :: U 102 :: U 103 :: U 104 :: U 105 :: U 106 :: U 107 :: U 108 :: U 109 :: U 110 :: U 111 :: U 112 :: U 113 :: U 114 :: U 115 :: U 116 :: U 117 :: U 118 :: U 119 :: U 120 :: U 121 :: U 122 :: U 123 :: U 124 :: U 125 :: U 126 :: U 127 :: U 128 :: U 129 :: U 130 :: U 131 :: U 132 :: U 133 :: U 134 :: U 135 :: U 136 :: U 137 :: U 138 :: U 139 :: U 140 :: U 141 :: U 142 :: U 143 :: U 144 :: U 145 :: U 146 :: U 147 :: U 148 :: U 149 :: U 150 :: U 151 :: U 152 :: U 153 :: U 154 :: U 155 :: U 156 :: U 157 :: U 158 :: U 159 :: U 160 :: U 161 :: U 162 :: U 163 :: U 164 :: U 165 :: U 166 :: U 167 :: U 168 :: U 169 :: U 170 :: U 171 :: U 172 :: U 173 :: U 174 :: U 175 :: U 176 :: U 177 :: []), []⟩
def hD (buy : Bool) (a1 : Option Addr) (n c1 rb : Nat) (x72 : Value) (U : Nat → Value) : Act := ⟨List.toArray (.bool buy :: U 1 :: U 2 :: U 3 :: U 4 :: U 5 :: U 6 :: U 7 :: U 8 :: U 9 :: U 10 :: U 11 :: U 12 :: U 13 :: U 14 :: .slice (some ⟨rb, 0, none⟩) 0 0 :: U 16 :: U 17 :: U 18 :: U 19 :: U 20 :: U 21 :: U 22 :: U 23 :: U 24 :: U 25 :: U 26 :: U 27 :: U 28 :: U 29 :: U 30 :: U 31 :: U 32 :: U 33 :: U 34 :: U 35 :: U 36 :: U 37 :: U 38 :: U 39 :: U 40 :: U 41 :: U 42 :: U 43 :: U 44 :: U 45 :: U 46 :: U 47 :: U 48 :: U 49 :: U 50 :: U 51 :: U 52 :: U 53 :: U 54 :: U 55 :: U 56 :: U 57 :: U 58 :: U 59 :: U 60 :: U 61 :: U 62 :: U 63 :: U 64 :: U 65 :: U 66 :: U 67 :: U 68 :: U 69 :: .slice a1 n c1 :: .int .i64 n :: x72 :: U 73 :: U 74 :: U 75 :: U 76 :: U 77 :: U 78 :: U 79 :: U 80 :: U 81 :: U 82 :: U 83 :: U 84 :: U 85 :: U 86 :: U 87 :: U 88 :: U 89 :: U 90 :: U 91 :: U 92 :: U 93 :: U 94 :: U 95 :: U 96 :: U 97 :: U 98 :: U 99 :: U 100 :: U 101 :: U 102 :: U 103 :: U 104 :: U 105 :: U 106 :: U 107 :: U 108 :: U 109 :: U 110 :: U 111 :: U 112 :: U 113 :: U 114 :: U 115 :: U 116 :: U 117 :: U 118 :: U 119 :: U 120 :: U 121 :: U 122 :: U 123 :: U 124 :: U 125 :: U 126 :: U 127 :: U 128 :: U 129 :: U 130 :: U 131 :: U 132 :: U 133 :: U 134 :: U 135 :: U 136 :: U 137 :: U 138 :: U 139 :: U 140 :: U 141 :: U 142 :: U 143 :: U 144 :: U 145 :: U 146 :: U 147 :: U 148 :: U 149 :: U 150 :: U 151 :: U 152 :: U 153 :: U 154 :: U 155 :: U 156 :: U 157 :: U 158 :: U 159 :: U 160 :: U 161 :: U 162 :: U 163 :: U 164 :: U 165 :: U 166 :: U 167 :: U 168 :: U 169 :: U 170 :: U 171 :: U 172 :: U 173 :: U 174 :: U 175 :: U 176 :: U 177 :: []), []⟩

set_option maxHeartbeats 2000000 in
theorem law1 (buy : Bool) (a1 : Option Addr) (n c1 : Nat) (ad : Nat → Bool) (pr qt pk : Nat → Int) (hn : n ≤ 1024) (w : World) (hO : Hid (Ops w a1 n ad pr qt pk)) (R : Ending → World → Prop) (Qq : Exit → Act → World → Prop)
    (HQ : Hid (∀ a, a = hA buy a1 n c1 (.int .i64 (na ad n)) (.int .i64 n) (sl a) → Qq (.exit 0) a w))
    (a : Act) (ha : a = hA buy a1 n c1 (.int .i64 (0 : Nat)) (.int .i64 (0 : Nat)) (sl a)) : Code.wp Ybad.prog ((Ybad.f3.body.bind (findLoop 5)).getD .skip) (QQ R Qq) a w := by
  conv => arg 2; whnf
  refine wp_loop_hand (X := Nat) (fun k a wr => wr = w ∧ k ≤ n ∧ a = hA buy a1 n c1 (.int .i64 (na ad k)) (.int .i64 k) (sl a)) (fun k => n - k) 0 ⟨rfl, Nat.zero_le _, ha⟩ ?_
  clear ha a
  rintro k a wr ⟨rfl, hk, ha⟩ Kc hK
  obtain ⟨U, rfl⟩ : ∃ U, a = hA buy a1 n c1 (.int .i64 (na ad k)) (.int .i64 k) U := ⟨_, ha⟩
  clear ha
  unfold hA
  have hnl := na_le ad k
  by_cases hlt : k < n
  · obtain ⟨b, off, rfl, _, c0, _, _, _⟩ := hO.out k hlt
    have hkn : (k : Int) < (n : Int) := by omega
    cases had : ad k with
    | true =>
      rw [had] at c0
      have hs : Hid (na ad (k + 1) = na ad k + 1) := by show _ = _; rw [na, had]; rfl
      clear HQ
      generalize na ad k = m at *
      go_wp2_with fail
      exact hK.out (k + 1) _ _ ⟨rfl, by omega, by rw [hs.out]; rfl⟩ (by omega)
    | false =>
      rw [had] at c0
      have hs : Hid (na ad (k + 1) = na ad k) := by show _ = _; rw [na, had]; rfl
      clear HQ
      generalize na ad k = m at *
      go_wp2_with fail
      exact hK.out (k + 1) _ _ ⟨rfl, by omega, by rw [hs.out]; rfl⟩ (by omega)
  · obtain rfl : k = n := by omega
    clear hK
    go_wp2_with fail
    exact HQ.out _ rfl
end Go.Proofs.YbulkdilgDoor
