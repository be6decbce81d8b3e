import Derived.Test.YbulkdilgSlices2
import Derived.Test.YbulkdilgDrpC
import Derived.Deep.LoopGhost
import Derived.BigQuiet
import Derived.Deep.QuietTactic
namespace Go.Proofs.Ybulkdilg
open Go.RowKit
set_option linter.unusedVariables false
set_option linter.unusedSimpArgs false
set_option linter.unnecessarySimpa false

/-- By what a loop is found again in the function's text: its first region's number. -/
def headRegion : Code → Option Nat
  | .region id _ _ => some id
  | .seq a _ => headRegion a
  | .block _ c => headRegion c
  | _ => none
def findLoop (n : Nat) : Code → Option Code
  | .loop c => if headRegion c == some n then some (.loop c) else findLoop n c
  | .seq a b => match findLoop n a with
    | some c => some c
    | none => findLoop n b
  | .block _ c => findLoop n c
  | .scope c => findLoop n c
  | .cond _ a b => match findLoop n a with
    | some c => some c
    | none => findLoop n b
  | _ => none

/-- What a frame's slots hold: by this one letter all slots that a piece of the proof does not speak of are carried. -/
def sl (a : Act) : Nat → Value := fun i => a.tmps.getD i undef

/-- What is asked behind a piece: of a panic nothing that hangs on the slots. -/
def QQ (R : Ending → World → Prop) (X : Exit → Act → World → Prop) : Exit → Act → World → Prop
  | .panic ch, a, w => a.defers = [] ∧ R (.panicked ch) w
  | .normal, a, w => X .normal a w
  | .exit i, a, w => X (.exit i) a w
  | .goto l, a, w => X (.goto l) a w
  | .ret, a, w => X .ret a w
  | .outgrown, a, w => X .outgrown a w

theorem wp_QQ {P : Program} {c : Code} {a : Act} {w : World} {R : Ending → World → Prop} {Q : Exit → Act → World → Prop} (hp : ∀ ch a w, (a.defers = [] ∧ R (.panicked ch) w) → Q (.panic ch) a w)
    (h : Code.wp P c (QQ R Q) a w) : Code.wp P c Q a w :=
  wp_mono h fun e a w h => by cases e <;> first | exact hp _ _ _ h | exact h

/-- A LOOP by an invariant over a ghost x, whose measure every round lowers. -/
theorem wp_loop_hand {P : Program} {Q : Exit → Act → World → Prop} {c : Code} {X : Type} (I : X → Act → World → Prop) (μ : X → Nat) (x0 : X) {a : Act} {w : World} (h0 : I x0 a w)
    (round : ∀ x a w, I x a w → ∀ K : Act → World → Prop, Hid (∀ x' a' w', I x' a' w' → μ x' < μ x → K a' w') → c.wp P (Exit.then K Q) a w) : (Code.loop c).wp P Q a w := by
  refine wp_loop_ghost (fun n a w => ∃ x, μ x = n ∧ I x a w) (μ x0) ⟨x0, rfl, h0⟩ ?_
  rintro n a w ⟨x, rfl, hI⟩
  exact round x a w hI _ (fun x' a' w' h hlt => ⟨μ x', hlt, x', rfl, h⟩)

/-! ### The model, plainly -/
theorem bt_tri {buy : Bool} {p q : Int} (h : p ≠ q) (h2 : bt buy p q = false) : bt buy q p = true := by
  cases buy <;> simp [bt] at h2 ⊢ <;> omega
theorem bt_asym {buy : Bool} {p q : Int} (h : bt buy p q = true) : bt buy q p = false := by
  cases buy <;> simp [bt] at h ⊢ <;> omega
theorem bt_irr (buy : Bool) (p : Int) : bt buy p p = false := by
  cases buy <;> simp [bt]
def cut (buy : Bool) (a : Int) (W : List Int) : Nat := (W.takeWhile (fun x => bt buy x a)).length
def stp (buy : Bool) (W : List Int) (a : Int) : List Int := if W[cut buy a W]? = some a then W else W.take (cut buy a W) ++ a :: W.drop (cut buy a W)
def wf (buy : Bool) (zs : List Int) : List Int := zs.foldl (stp buy) []
theorem wf_succ (buy : Bool) (zs : List Int) (k : Nat) (a : Int) (h : zs[k]? = some a) : wf buy (zs.take (k + 1)) = stp buy (wf buy (zs.take k)) a := by
  unfold wf
  have hk : k < zs.length := (List.getElem?_eq_some_iff.1 h).1
  rw [List.take_succ_eq_append_getElem hk, List.foldl_append, show zs[k] = a from (List.getElem?_eq_some_iff.1 h).2]
  rfl
theorem stp_len (buy : Bool) (W : List Int) (a : Int) : W.length ≤ (stp buy W a).length ∧ (stp buy W a).length ≤ W.length + 1 := by
  unfold stp
  split
  · omega
  · simp; omega
theorem stp_pos (buy : Bool) (W : List Int) (a : Int) : 0 < (stp buy W a).length := by
  unfold stp
  split
  · rename_i h
    have := (List.getElem?_eq_some_iff.1 h).1
    omega
  · simp; omega
theorem wf_len (buy : Bool) (zs : List Int) : ∀ k, k ≤ zs.length → (wf buy (zs.take k)).length ≤ k
  | 0, _ => by simp [wf]
  | k + 1, h => by
    have hk : k < zs.length := by omega
    rw [wf_succ buy zs k zs[k] (List.getElem?_eq_getElem hk)]
    have := wf_len buy zs k (by omega)
    have := (stp_len buy (wf buy (zs.take k)) zs[k]).2
    omega
theorem wf_pos (buy : Bool) (zs : List Int) (h : 0 < zs.length) : 0 < (wf buy zs).length := by
  have e := wf_succ buy zs (zs.length - 1) zs[zs.length - 1] (List.getElem?_eq_getElem (by omega))
  rw [show zs.length - 1 + 1 = zs.length by omega, List.take_length] at e
  rw [e]; exact stp_pos _ _ _
theorem cut_eq {buy : Bool} {a : Int} : ∀ {W : List Int} {i : Nat}, i ≤ W.length → (∀ j, j < i → bt buy (W.getD j 0) a = true) → (i = W.length ∨ bt buy (W.getD i 0) a = false) → cut buy a W = i
  | [], i, h, _, _ => by simp [cut]; simp at h; exact h.symm
  | x :: W, 0, _, _, h => by
    have : bt buy x a = false := by simpa using h
    simp [cut, List.takeWhile, this]
  | x :: W, i + 1, h, h1, h2 => by
    have e : bt buy x a = true := by simpa using h1 0 (by omega)
    have := cut_eq (W := W) (i := i) (by simpa using h) (fun j hj => by simpa using h1 (j + 1) (by omega)) (by simpa using h2)
    unfold cut at this ⊢
    simp [List.takeWhile, e, this]
theorem stp_ins {buy : Bool} {Y X : List Int} {a : Int} (hY : ∀ y, y ∈ Y → bt buy y a = true) (hX : ∀ x, x ∈ X → bt buy a x = true) : stp buy (Y ++ X) a = Y ++ a :: X := by
  have e : cut buy a (Y ++ X) = Y.length := by
    refine cut_eq (by simp) (fun j hj => ?_) ?_
    · have : (Y ++ X).getD j 0 = Y[j] := by simp [List.getD, List.getElem?_append, hj]
      rw [this]; exact hY _ (List.getElem_mem hj)
    · cases X with
      | nil => left; simp
      | cons x X =>
        right
        have : (Y ++ x :: X).getD Y.length 0 = x := by simp [List.getD]
        rw [this]; exact bt_asym (hX x (by simp))
  unfold stp
  rw [e, if_neg, List.take_left' rfl, List.drop_left' rfl]
  intro hc
  cases X with
  | nil => simp at hc
  | cons x X =>
    simp at hc
    have := hX x (by simp)
    rw [hc, bt_irr] at this
    cases this
theorem stp_dup {buy : Bool} {Y X : List Int} {a : Int} (hY : ∀ y, y ∈ Y → bt buy y a = true) : stp buy (Y ++ a :: X) a = Y ++ a :: X := by
  have e : cut buy a (Y ++ a :: X) = Y.length := by
    refine cut_eq (by simp) (fun j hj => ?_) ?_
    · have : (Y ++ a :: X).getD j 0 = Y[j] := by simp [List.getD, List.getElem?_append, hj]
      rw [this]; exact hY _ (List.getElem_mem hj)
    · right
      have : (Y ++ a :: X).getD Y.length 0 = a := by simp [List.getD]
      rw [this]; exact bt_irr _ _
  unfold stp
  rw [e, if_pos]
  simp

/-! ### What the source and the model's list hold -/
def Src (w : World) (sa : Option Addr) (n : Nat) (zs : List Int) : Prop := ∀ i, i < n → ∃ b off, sa = some ⟨b, off, none⟩ ∧ b < w.heap.size ∧ w.cell? ⟨b, off + i, none⟩ = some (.int .i64 (zs.getD i 0))
theorem Src.of {w w' : World} {sa : Option Addr} {n : Nat} {zs : List Int} (h : Src w sa n zs) (hb : Below w.heap.size w w') : ∀ i, i < n → ∃ b off, sa = some ⟨b, off, none⟩ ∧ w'.cell? ⟨b, off + i, none⟩ = some (.int .i64 (zs.getD i 0)) := fun i hi => by
  obtain ⟨b, off, h1, h2, h3⟩ := h i hi
  exact ⟨b, off, h1, (hb.cell (p := ⟨b, off + i, none⟩) h2).trans h3⟩
def am (W : List Int) : List Value := W.map (Value.int .i64)
theorem am_one (W : List Int) : ∀ u ∈ am W, u.oneCell' = true := by
  intro u hu
  obtain ⟨x, _, rfl⟩ := List.mem_map.1 hu
  rfl
theorem am_get {W : List Int} {i : Nat} (hi : i < W.length) : (am W)[i]? = some (.int .i64 (W.getD i 0)) := by
  simp [am, List.getD, List.getElem?_eq_getElem hi]
def Wnt (w wr : World) (va : Option Addr) (vc : Nat) (W : List Int) : Prop := wr.ownsRow w.heap.size 25 1 (.slice va W.length vc) W.length (am W) ∧ Below w.heap.size w wr
theorem Wnt.cell {w wr : World} {va : Option Addr} {vc : Nat} {W : List Int} (h : Wnt w wr va vc W) {i : Nat} (hi : i < W.length) : ∃ g, va = some ⟨g, 0, none⟩ ∧ wr.cell? ⟨g, i, none⟩ = some (.int .i64 (W.getD i 0)) := by
  obtain ⟨g, cap, e, _, _⟩ := h.1.form (by omega)
  obtain ⟨e1, e2, e3⟩ : va = some ⟨g, 0, none⟩ ∧ W.length = W.length ∧ vc = cap := by simpa using e
  subst e1
  refine ⟨g, rfl, ?_⟩
  have := h.1.cells (g := g) rfl i _ (am_get hi)
  rwa [add_at, Nat.zero_add] at this

theorem better_c (buy : Bool) (p q : Int) (w : World) : Calls Yba.prog 4 #[.bool buy, .int .i64 p, .int .i64 q] w fun e w' => e = .returned (.bool (bt buy p q)) ∧ w' = w := by
  go_enter Yba.func4, Yba.ntmps4
  cases buy
  all_goals
    go_wp2
    go_ret
    exact ⟨by simp [bt], rfl⟩

set_option maxRecDepth 100000
def fA (buy : Bool) (kk : Int) (sa : Option Addr) (n sc : Nat) (x8 x47 : Value) (U : Nat → Value) : Act := ⟨List.toArray (.bool buy :: U 1 :: .int .u64 kk :: U 3 :: U 4 :: U 5 :: U 6 :: .slice sa n sc :: x8 :: U 9 :: U 10 :: U 11 :: U 12 :: U 13 :: U 14 :: U 15 :: U 16 :: U 17 :: U 18 :: U 19 :: U 20 :: U 21 :: U 22 :: U 23 :: U 24 :: U 25 :: U 26 :: U 27 :: U 28 :: U 29 :: U 30 :: U 31 :: U 32 :: U 33 :: U 34 :: U 35 :: U 36 :: U 37 :: U 38 :: U 39 :: U 40 :: U 41 :: U 42 :: U 43 :: U 44 :: .slice sa n sc :: .int .i64 n :: x47 :: U 48 :: U 49 :: U 50 :: U 51 :: U 52 :: U 53 :: U 54 :: U 55 :: U 56 :: U 57 :: U 58 :: U 59 :: U 60 :: U 61 :: U 62 :: U 63 :: U 64 :: U 65 :: U 66 :: U 67 :: U 68 :: U 69 :: U 70 :: U 71 :: U 72 :: U 73 :: U 74 :: U 75 :: U 76 :: U 77 :: U 78 :: U 79 :: U 80 :: U 81 :: U 82 :: U 83 :: U 84 :: U 85 :: U 86 :: U 87 :: U 88 :: U 89 :: U 90 :: U 91 :: U 92 :: U 93 :: U 94 :: U 95 :: U 96 :: U 97 :: U 98 :: U 99 :: U 100 :: U 101 :: U 102 :: U 103 :: U 104 :: U 105 :: U 106 :: U 107 :: U 108 :: U 109 :: U 110 :: U 111 :: U 112 :: U 113 :: U 114 :: U 115 :: U 116 :: U 117 :: U 118 :: U 119 :: U 120 :: U 121 :: U 122 :: U 123 :: U 124 :: U 125 :: U 126 :: U 127 :: U 128 :: U 129 :: U 130 :: U 131 :: U 132 :: U 133 :: U 134 :: U 135 :: U 136 :: U 137 :: U 138 :: U 139 :: U 140 :: U 141 :: U 142 :: U 143 :: U 144 :: U 145 :: U 146 :: U 147 :: U 148 :: U 149 :: U 150 :: U 151 :: U 152 :: U 153 :: U 154 :: U 155 :: U 156 :: U 157 :: U 158 :: U 159 :: U 160 :: U 161 :: U 162 :: U 163 :: U 164 :: U 165 :: U 166 :: U 167 :: U 168 :: U 169 :: U 170 :: U 171 :: U 172 :: U 173 :: U 174 :: U 175 :: U 176 :: U 177 :: U 178 :: U 179 :: U 180 :: U 181 :: U 182 :: U 183 :: U 184 :: U 185 :: U 186 :: U 187 :: U 188 :: U 189 :: U 190 :: U 191 :: U 192 :: U 193 :: U 194 :: U 195 :: U 196 :: U 197 :: U 198 :: U 199 :: U 200 :: U 201 :: U 202 :: U 203 :: U 204 :: U 205 :: U 206 :: U 207 :: U 208 :: U 209 :: U 210 :: U 211 :: U 212 :: U 213 :: U 214 :: U 215 :: U 216 :: U 217 :: U 218 :: U 219 :: U 220 :: U 221 :: U 222 :: U 223 :: U 224 :: U 225 :: U 226 :: U 227 :: U 228 :: U 229 :: U 230 :: U 231 :: U 232 :: U 233 :: U 234 :: U 235 :: U 236 :: U 237 :: U 238 :: U 239 :: U 240 :: U 241 :: U 242 :: U 243 :: U 244 :: U 245 :: U 246 :: U 247 :: U 248 :: U 249 :: U 250 :: U 251 :: U 252 :: U 253 :: U 254 :: U 255 :: U 256 :: U 257 :: U 258 :: U 259 :: U 260 :: U 261 :: U 262 :: U 263 :: U 264 :: U 265 :: U 266 :: U 267 :: U 268 :: U 269 :: U 270 :: U 271 :: U 272 :: U 273 :: U 274 :: U 275 :: U 276 :: U 277 :: U 278 :: U 279 :: U 280 :: U 281 :: U 282 :: U 283 :: U 284 :: U 285 :: U 286 :: U 287 :: U 288 :: U 289 :: U 290 :: U 291 :: U 292 :: U 293 :: U 294 :: U 295 :: U 296 :: U 297 :: U 298 :: U 299 :: U 300 :: U 301 :: U 302 :: U 303 :: U 304 :: U 305 :: U 306 :: []), []⟩
def fB (buy : Bool) (kk : Int) (sa : Option Addr) (n sc : Nat) (x8 x47 x11 x12 x13 : Value) (U : Nat → Value) : Act := ⟨List.toArray (.bool buy :: U 1 :: .int .u64 kk :: U 3 :: U 4 :: U 5 :: U 6 :: .slice sa n sc :: x8 :: U 9 :: U 10 :: x11 :: x12 :: x13 :: U 14 :: U 15 :: U 16 :: U 17 :: U 18 :: U 19 :: U 20 :: U 21 :: U 22 :: U 23 :: U 24 :: U 25 :: U 26 :: U 27 :: U 28 :: U 29 :: U 30 :: U 31 :: U 32 :: U 33 :: U 34 :: U 35 :: U 36 :: U 37 :: U 38 :: U 39 :: U 40 :: U 41 :: U 42 :: U 43 :: U 44 :: .slice sa n sc :: .int .i64 n :: x47 :: U 48 :: U 49 :: U 50 :: U 51 :: U 52 :: U 53 :: U 54 :: U 55 :: U 56 :: U 57 :: U 58 :: U 59 :: U 60 :: U 61 :: U 62 :: U 63 :: U 64 :: U 65 :: U 66 :: U 67 :: U 68 :: U 69 :: U 70 :: U 71 :: U 72 :: U 73 :: U 74 :: U 75 :: U 76 :: U 77 :: U 78 :: U 79 :: U 80 :: U 81 :: U 82 :: U 83 :: U 84 :: U 85 :: U 86 :: U 87 :: U 88 :: U 89 :: U 90 :: U 91 :: U 92 :: U 93 :: U 94 :: U 95 :: U 96 :: U 97 :: U 98 :: U 99 :: U 100 :: U 101 :: U 102 :: U 103 :: U 104 :: U 105 :: U 106 :: U 107 :: U 108 :: U 109 :: U 110 :: U 111 :: U 112 :: U 113 :: U 114 :: U 115 :: U 116 :: U 117 :: U 118 :: U 119 :: U 120 :: U 121 :: U 122 :: U 123 :: U 124 :: U 125 :: U 126 :: U 127 :: U 128 :: U 129 :: U 130 :: U 131 :: U 132 :: U 133 :: U 134 :: U 135 :: U 136 :: U 137 :: U 138 :: U 139 :: U 140 :: U 141 :: U 142 :: U 143 :: U 144 :: U 145 :: U 146 :: U 147 :: U 148 :: U 149 :: U 150 :: U 151 :: U 152 :: U 153 :: U 154 :: U 155 :: U 156 :: U 157 :: U 158 :: U 159 :: U 160 :: U 161 :: U 162 :: U 163 :: U 164 :: U 165 :: U 166 :: U 167 :: U 168 :: U 169 :: U 170 :: U 171 :: U 172 :: U 173 :: U 174 :: U 175 :: U 176 :: U 177 :: U 178 :: U 179 :: U 180 :: U 181 :: U 182 :: U 183 :: U 184 :: U 185 :: U 186 :: U 187 :: U 188 :: U 189 :: U 190 :: U 191 :: U 192 :: U 193 :: U 194 :: U 195 :: U 196 :: U 197 :: U 198 :: U 199 :: U 200 :: U 201 :: U 202 :: U 203 :: U 204 :: U 205 :: U 206 :: U 207 :: U 208 :: U 209 :: U 210 :: U 211 :: U 212 :: U 213 :: U 214 :: U 215 :: U 216 :: U 217 :: U 218 :: U 219 :: U 220 :: U 221 :: U 222 :: U 223 :: U 224 :: U 225 :: U 226 :: U 227 :: U 228 :: U 229 :: U 230 :: U 231 :: U 232 :: U 233 :: U 234 :: U 235 :: U 236 :: U 237 :: U 238 :: U 239 :: U 240 :: U 241 :: U 242 :: U 243 :: U 244 :: U 245 :: U 246 :: U 247 :: U 248 :: U 249 :: U 250 :: U 251 :: U 252 :: U 253 :: U 254 :: U 255 :: U 256 :: U 257 :: U 258 :: U 259 :: U 260 :: U 261 :: U 262 :: U 263 :: U 264 :: U 265 :: U 266 :: U 267 :: U 268 :: U 269 :: U 270 :: U 271 :: U 272 :: U 273 :: U 274 :: U 275 :: U 276 :: U 277 :: U 278 :: U 279 :: U 280 :: U 281 :: U 282 :: U 283 :: U 284 :: U 285 :: U 286 :: U 287 :: U 288 :: U 289 :: U 290 :: U 291 :: U 292 :: U 293 :: U 294 :: U 295 :: U 296 :: U 297 :: U 298 :: U 299 :: U 300 :: U 301 :: U 302 :: U 303 :: U 304 :: U 305 :: U 306 :: []), []⟩
def fC (buy : Bool) (kk : Int) (sa : Option Addr) (n sc : Nat) (sb : Nat) (x8 x83 : Value) (U : Nat → Value) : Act := ⟨List.toArray (.bool buy :: U 1 :: .int .u64 kk :: U 3 :: U 4 :: U 5 :: U 6 :: .slice sa n sc :: x8 :: U 9 :: U 10 :: U 11 :: U 12 :: U 13 :: .pointer (some ⟨sb, 0, none⟩) :: U 15 :: U 16 :: U 17 :: U 18 :: U 19 :: U 20 :: U 21 :: U 22 :: U 23 :: U 24 :: U 25 :: U 26 :: U 27 :: U 28 :: U 29 :: U 30 :: U 31 :: U 32 :: U 33 :: U 34 :: U 35 :: U 36 :: U 37 :: U 38 :: U 39 :: U 40 :: U 41 :: U 42 :: U 43 :: U 44 :: U 45 :: U 46 :: U 47 :: U 48 :: U 49 :: U 50 :: U 51 :: U 52 :: U 53 :: U 54 :: U 55 :: U 56 :: U 57 :: U 58 :: U 59 :: U 60 :: U 61 :: U 62 :: U 63 :: U 64 :: U 65 :: U 66 :: U 67 :: U 68 :: U 69 :: U 70 :: U 71 :: U 72 :: U 73 :: U 74 :: U 75 :: U 76 :: U 77 :: U 78 :: U 79 :: U 80 :: .slice sa n sc :: .int .i64 n :: x83 :: U 84 :: U 85 :: U 86 :: U 87 :: U 88 :: U 89 :: U 90 :: U 91 :: U 92 :: U 93 :: U 94 :: U 95 :: U 96 :: U 97 :: U 98 :: U 99 :: U 100 :: U 101 :: U 102 :: U 103 :: U 104 :: U 105 :: U 106 :: U 107 :: U 108 :: U 109 :: U 110 :: U 111 :: U 112 :: U 113 :: U 114 :: U 115 :: U 116 :: U 117 :: U 118 :: U 119 :: U 120 :: U 121 :: U 122 :: U 123 :: U 124 :: U 125 :: U 126 :: U 127 :: U 128 :: U 129 :: U 130 :: U 131 :: U 132 :: U 133 :: U 134 :: U 135 :: U 136 :: U 137 :: U 138 :: U 139 :: U 140 :: U 141 :: U 142 :: U 143 :: U 144 :: U 145 :: U 146 :: U 147 :: U 148 :: U 149 :: U 150 :: U 151 :: U 152 :: U 153 :: U 154 :: U 155 :: U 156 :: U 157 :: U 158 :: U 159 :: U 160 :: U 161 :: U 162 :: U 163 :: U 164 :: U 165 :: U 166 :: U 167 :: U 168 :: U 169 :: U 170 :: U 171 :: U 172 :: U 173 :: U 174 :: U 175 :: U 176 :: U 177 :: U 178 :: U 179 :: U 180 :: U 181 :: U 182 :: U 183 :: U 184 :: U 185 :: U 186 :: U 187 :: U 188 :: U 189 :: U 190 :: U 191 :: U 192 :: U 193 :: U 194 :: U 195 :: U 196 :: U 197 :: U 198 :: U 199 :: U 200 :: U 201 :: U 202 :: U 203 :: U 204 :: U 205 :: U 206 :: U 207 :: U 208 :: U 209 :: U 210 :: U 211 :: U 212 :: U 213 :: U 214 :: U 215 :: U 216 :: U 217 :: U 218 :: U 219 :: U 220 :: U 221 :: U 222 :: U 223 :: U 224 :: U 225 :: U 226 :: U 227 :: U 228 :: U 229 :: U 230 :: U 231 :: U 232 :: U 233 :: U 234 :: U 235 :: U 236 :: U 237 :: U 238 :: U 239 :: U 240 :: U 241 :: U 242 :: U 243 :: U 244 :: U 245 :: U 246 :: U 247 :: U 248 :: U 249 :: U 250 :: U 251 :: U 252 :: U 253 :: U 254 :: U 255 :: U 256 :: U 257 :: U 258 :: U 259 :: U 260 :: U 261 :: U 262 :: U 263 :: U 264 :: U 265 :: U 266 :: U 267 :: U 268 :: U 269 :: U 270 :: U 271 :: U 272 :: U 273 :: U 274 :: U 275 :: U 276 :: U 277 :: U 278 :: U 279 :: U 280 :: U 281 :: U 282 :: U 283 :: U 284 :: U 285 :: U 286 :: U 287 :: U 288 :: U 289 :: U 290 :: U 291 :: U 292 :: U 293 :: U 294 :: U 295 :: U 296 :: U 297 :: U 298 :: U 299 :: U 300 :: U 301 :: U 302 :: U 303 :: U 304 :: U 305 :: U 306 :: []), []⟩
def fD (buy : Bool) (kk : Int) (sa : Option Addr) (n sc : Nat) (sb : Nat) (x8 x19 x20 x21 : Value) (U : Nat → Value) : Act := ⟨List.toArray (.bool buy :: U 1 :: .int .u64 kk :: U 3 :: U 4 :: U 5 :: U 6 :: .slice sa n sc :: x8 :: U 9 :: U 10 :: U 11 :: U 12 :: U 13 :: .pointer (some ⟨sb, 0, none⟩) :: U 15 :: U 16 :: U 17 :: U 18 :: x19 :: x20 :: x21 :: U 22 :: U 23 :: U 24 :: U 25 :: U 26 :: U 27 :: U 28 :: U 29 :: U 30 :: U 31 :: U 32 :: U 33 :: U 34 :: U 35 :: U 36 :: U 37 :: U 38 :: U 39 :: U 40 :: U 41 :: U 42 :: U 43 :: U 44 :: U 45 :: U 46 :: U 47 :: U 48 :: U 49 :: U 50 :: U 51 :: U 52 :: U 53 :: U 54 :: U 55 :: U 56 :: U 57 :: U 58 :: U 59 :: U 60 :: U 61 :: U 62 :: U 63 :: U 64 :: U 65 :: U 66 :: U 67 :: U 68 :: U 69 :: U 70 :: U 71 :: U 72 :: U 73 :: U 74 :: U 75 :: U 76 :: U 77 :: U 78 :: U 79 :: U 80 :: U 81 :: U 82 :: U 83 :: U 84 :: U 85 :: U 86 :: U 87 :: U 88 :: U 89 :: U 90 :: U 91 :: U 92 :: U 93 :: U 94 :: U 95 :: U 96 :: U 97 :: U 98 :: U 99 :: U 100 :: U 101 :: U 102 :: U 103 :: U 104 :: U 105 :: U 106 :: U 107 :: U 108 :: U 109 :: U 110 :: U 111 :: U 112 :: U 113 :: U 114 :: U 115 :: U 116 :: U 117 :: U 118 :: U 119 :: U 120 :: U 121 :: U 122 :: U 123 :: U 124 :: U 125 :: U 126 :: U 127 :: U 128 :: U 129 :: U 130 :: U 131 :: U 132 :: U 133 :: U 134 :: U 135 :: U 136 :: U 137 :: U 138 :: U 139 :: U 140 :: U 141 :: U 142 :: U 143 :: U 144 :: U 145 :: U 146 :: U 147 :: U 148 :: U 149 :: U 150 :: U 151 :: U 152 :: U 153 :: U 154 :: U 155 :: U 156 :: U 157 :: U 158 :: U 159 :: U 160 :: U 161 :: U 162 :: U 163 :: U 164 :: U 165 :: U 166 :: U 167 :: U 168 :: U 169 :: U 170 :: U 171 :: U 172 :: U 173 :: U 174 :: U 175 :: U 176 :: U 177 :: U 178 :: U 179 :: U 180 :: U 181 :: U 182 :: U 183 :: U 184 :: U 185 :: U 186 :: U 187 :: U 188 :: U 189 :: U 190 :: U 191 :: U 192 :: U 193 :: U 194 :: U 195 :: U 196 :: U 197 :: U 198 :: U 199 :: U 200 :: U 201 :: U 202 :: U 203 :: U 204 :: U 205 :: U 206 :: U 207 :: U 208 :: U 209 :: U 210 :: U 211 :: U 212 :: U 213 :: U 214 :: U 215 :: U 216 :: U 217 :: U 218 :: U 219 :: U 220 :: U 221 :: U 222 :: U 223 :: U 224 :: U 225 :: U 226 :: U 227 :: U 228 :: U 229 :: U 230 :: U 231 :: U 232 :: U 233 :: U 234 :: U 235 :: U 236 :: U 237 :: U 238 :: U 239 :: U 240 :: U 241 :: U 242 :: U 243 :: U 244 :: U 245 :: U 246 :: U 247 :: U 248 :: U 249 :: U 250 :: U 251 :: U 252 :: U 253 :: U 254 :: U 255 :: U 256 :: U 257 :: U 258 :: U 259 :: U 260 :: U 261 :: U 262 :: U 263 :: U 264 :: U 265 :: U 266 :: U 267 :: U 268 :: U 269 :: U 270 :: U 271 :: U 272 :: U 273 :: U 274 :: U 275 :: U 276 :: U 277 :: U 278 :: U 279 :: U 280 :: U 281 :: U 282 :: U 283 :: U 284 :: U 285 :: U 286 :: U 287 :: U 288 :: U 289 :: U 290 :: U 291 :: U 292 :: U 293 :: U 294 :: U 295 :: U 296 :: U 297 :: U 298 :: U 299 :: U 300 :: U 301 :: U 302 :: U 303 :: U 304 :: U 305 :: U 306 :: []), []⟩
def fE (buy : Bool) (kk : Int) (sa : Option Addr) (n sc : Nat) (sb : Nat) (x20 x28 x29 x30 x31 x32 : Value) (U : Nat → Value) : Act := ⟨List.toArray (.bool buy :: U 1 :: .int .u64 kk :: U 3 :: U 4 :: U 5 :: U 6 :: .slice sa n sc :: U 8 :: U 9 :: U 10 :: U 11 :: U 12 :: U 13 :: .pointer (some ⟨sb, 0, none⟩) :: U 15 :: U 16 :: U 17 :: U 18 :: U 19 :: x20 :: U 21 :: U 22 :: U 23 :: U 24 :: U 25 :: U 26 :: U 27 :: x28 :: x29 :: x30 :: x31 :: x32 :: U 33 :: U 34 :: U 35 :: U 36 :: U 37 :: U 38 :: U 39 :: U 40 :: U 41 :: U 42 :: U 43 :: U 44 :: U 45 :: U 46 :: U 47 :: U 48 :: U 49 :: U 50 :: U 51 :: U 52 :: U 53 :: U 54 :: U 55 :: U 56 :: U 57 :: U 58 :: U 59 :: U 60 :: U 61 :: U 62 :: U 63 :: U 64 :: U 65 :: U 66 :: U 67 :: U 68 :: U 69 :: U 70 :: U 71 :: U 72 :: U 73 :: U 74 :: U 75 :: U 76 :: U 77 :: U 78 :: U 79 :: U 80 :: U 81 :: U 82 :: U 83 :: U 84 :: U 85 :: U 86 :: U 87 :: U 88 :: U 89 :: U 90 :: U 91 :: U 92 :: U 93 :: U 94 :: U 95 :: U 96 :: U 97 :: U 98 :: U 99 :: U 100 :: U 101 :: U 102 :: U 103 :: U 104 :: U 105 :: U 106 :: U 107 :: U 108 :: U 109 :: U 110 :: U 111 :: U 112 :: U 113 :: U 114 :: U 115 :: U 116 :: U 117 :: U 118 :: U 119 :: U 120 :: U 121 :: U 122 :: U 123 :: U 124 :: U 125 :: U 126 :: U 127 :: U 128 :: U 129 :: U 130 :: U 131 :: U 132 :: U 133 :: U 134 :: U 135 :: U 136 :: U 137 :: U 138 :: U 139 :: U 140 :: U 141 :: U 142 :: U 143 :: U 144 :: U 145 :: U 146 :: U 147 :: U 148 :: U 149 :: U 150 :: U 151 :: U 152 :: U 153 :: U 154 :: U 155 :: U 156 :: U 157 :: U 158 :: U 159 :: U 160 :: U 161 :: U 162 :: U 163 :: U 164 :: U 165 :: U 166 :: U 167 :: U 168 :: U 169 :: U 170 :: U 171 :: U 172 :: U 173 :: U 174 :: U 175 :: U 176 :: U 177 :: U 178 :: U 179 :: U 180 :: U 181 :: U 182 :: U 183 :: U 184 :: U 185 :: U 186 :: U 187 :: U 188 :: U 189 :: U 190 :: U 191 :: U 192 :: U 193 :: U 194 :: U 195 :: U 196 :: U 197 :: U 198 :: U 199 :: U 200 :: U 201 :: U 202 :: U 203 :: U 204 :: U 205 :: U 206 :: U 207 :: U 208 :: U 209 :: U 210 :: U 211 :: U 212 :: U 213 :: U 214 :: U 215 :: U 216 :: U 217 :: U 218 :: U 219 :: U 220 :: U 221 :: U 222 :: U 223 :: U 224 :: U 225 :: U 226 :: U 227 :: U 228 :: U 229 :: U 230 :: U 231 :: U 232 :: U 233 :: U 234 :: U 235 :: U 236 :: U 237 :: U 238 :: U 239 :: U 240 :: U 241 :: U 242 :: U 243 :: U 244 :: U 245 :: U 246 :: U 247 :: U 248 :: U 249 :: U 250 :: U 251 :: U 252 :: U 253 :: U 254 :: U 255 :: U 256 :: U 257 :: U 258 :: U 259 :: U 260 :: U 261 :: U 262 :: U 263 :: U 264 :: U 265 :: U 266 :: U 267 :: U 268 :: U 269 :: U 270 :: U 271 :: U 272 :: U 273 :: U 274 :: U 275 :: U 276 :: U 277 :: U 278 :: U 279 :: U 280 :: U 281 :: U 282 :: U 283 :: U 284 :: U 285 :: U 286 :: U 287 :: U 288 :: U 289 :: U 290 :: U 291 :: U 292 :: U 293 :: U 294 :: U 295 :: U 296 :: U 297 :: U 298 :: U 299 :: U 300 :: U 301 :: U 302 :: U 303 :: U 304 :: U 305 :: U 306 :: []), []⟩
def fF (buy : Bool) (kk : Int) (sa : Option Addr) (n sc : Nat) (x29 x33 x36 : Value) (U : Nat → Value) : Act := ⟨List.toArray (.bool buy :: U 1 :: .int .u64 kk :: U 3 :: U 4 :: U 5 :: U 6 :: .slice sa n sc :: U 8 :: U 9 :: U 10 :: U 11 :: U 12 :: U 13 :: U 14 :: U 15 :: U 16 :: U 17 :: U 18 :: U 19 :: U 20 :: U 21 :: U 22 :: U 23 :: U 24 :: U 25 :: U 26 :: U 27 :: U 28 :: x29 :: U 30 :: U 31 :: U 32 :: x33 :: U 34 :: U 35 :: x36 :: U 37 :: U 38 :: U 39 :: U 40 :: U 41 :: U 42 :: U 43 :: U 44 :: U 45 :: U 46 :: U 47 :: U 48 :: U 49 :: U 50 :: U 51 :: U 52 :: U 53 :: U 54 :: U 55 :: U 56 :: U 57 :: U 58 :: U 59 :: U 60 :: U 61 :: U 62 :: U 63 :: U 64 :: U 65 :: U 66 :: U 67 :: U 68 :: U 69 :: U 70 :: U 71 :: U 72 :: U 73 :: U 74 :: U 75 :: U 76 :: U 77 :: U 78 :: U 79 :: U 80 :: U 81 :: U 82 :: U 83 :: U 84 :: U 85 :: U 86 :: U 87 :: U 88 :: U 89 :: U 90 :: U 91 :: U 92 :: U 93 :: U 94 :: U 95 :: U 96 :: U 97 :: U 98 :: U 99 :: U 100 :: U 101 :: U 102 :: U 103 :: U 104 :: U 105 :: U 106 :: U 107 :: U 108 :: U 109 :: U 110 :: U 111 :: U 112 :: U 113 :: U 114 :: U 115 :: U 116 :: U 117 :: U 118 :: U 119 :: U 120 :: U 121 :: U 122 :: U 123 :: U 124 :: U 125 :: U 126 :: U 127 :: U 128 :: U 129 :: U 130 :: U 131 :: U 132 :: U 133 :: U 134 :: U 135 :: U 136 :: U 137 :: U 138 :: U 139 :: U 140 :: U 141 :: U 142 :: U 143 :: U 144 :: U 145 :: U 146 :: U 147 :: U 148 :: U 149 :: U 150 :: U 151 :: U 152 :: U 153 :: U 154 :: U 155 :: U 156 :: U 157 :: U 158 :: U 159 :: U 160 :: U 161 :: U 162 :: U 163 :: U 164 :: U 165 :: U 166 :: U 167 :: U 168 :: U 169 :: U 170 :: U 171 :: U 172 :: U 173 :: U 174 :: U 175 :: U 176 :: U 177 :: U 178 :: U 179 :: U 180 :: U 181 :: U 182 :: U 183 :: U 184 :: U 185 :: U 186 :: U 187 :: U 188 :: U 189 :: U 190 :: U 191 :: U 192 :: U 193 :: U 194 :: U 195 :: U 196 :: U 197 :: U 198 :: U 199 :: U 200 :: U 201 :: U 202 :: U 203 :: U 204 :: U 205 :: U 206 :: U 207 :: U 208 :: U 209 :: U 210 :: U 211 :: U 212 :: U 213 :: U 214 :: U 215 :: U 216 :: U 217 :: U 218 :: U 219 :: U 220 :: U 221 :: U 222 :: U 223 :: U 224 :: U 225 :: U 226 :: U 227 :: U 228 :: U 229 :: U 230 :: U 231 :: U 232 :: U 233 :: U 234 :: U 235 :: U 236 :: U 237 :: U 238 :: U 239 :: U 240 :: U 241 :: U 242 :: U 243 :: U 244 :: U 245 :: U 246 :: U 247 :: U 248 :: U 249 :: U 250 :: U 251 :: U 252 :: U 253 :: U 254 :: U 255 :: U 256 :: U 257 :: U 258 :: U 259 :: U 260 :: U 261 :: U 262 :: U 263 :: U 264 :: U 265 :: U 266 :: U 267 :: U 268 :: U 269 :: U 270 :: U 271 :: U 272 :: U 273 :: U 274 :: U 275 :: U 276 :: U 277 :: U 278 :: U 279 :: U 280 :: U 281 :: U 282 :: U 283 :: U 284 :: U 285 :: U 286 :: U 287 :: U 288 :: U 289 :: U 290 :: U 291 :: U 292 :: U 293 :: U 294 :: U 295 :: U 296 :: U 297 :: U 298 :: U 299 :: U 300 :: U 301 :: U 302 :: U 303 :: U 304 :: U 305 :: U 306 :: []), []⟩
end Go.Proofs.Ybulkdilg
