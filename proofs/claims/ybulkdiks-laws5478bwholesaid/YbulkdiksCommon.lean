import Derived.Test.YbulkdiksRows
import Derived.Test.YbulkdiksStart
import Derived.Test.YbulkdiksTouch
import Derived.WalkKit
import Derived.WalkSpells
import Derived.ProofKit
import Derived.BigQuiet
import Derived.BigRegion
import Derived.RegionTactic
import Derived.Deep.QuietTactic
import Derived.Deep.RegionLaw
import Derived.Laws.CopyOwn
import Derived.Deep.Cut
import Derived.Deep.MidRow
import Derived.Deep.CutBlock
import Derived.LaidEqlPtr
import Derived.Deep.LoopGhost
import Derived.Deep.DeepCutAuto
namespace Go.Proofs.Ybulkdiks
open Go.RowKit
set_option linter.unusedVariables false
set_option linter.unusedSimpArgs false

def Src (w : World) (a : Option Addr) (len : Nat) (f : Nat → Value) : Prop :=
  0 < len → ∃ b off, a = some ⟨b, off, none⟩ ∧ b < w.heap.size ∧ ∀ i, i < len → w.cell? ⟨b, off + i, none⟩ = some (f i)

def HS (n q : Nat) (hz : Nat → Nat) : List Nat := (List.range q).map (fun i => hz i % n)
def HSn (n q : Nat) (hz : Nat → Nat) : List Nat := if 0 < n then HS n q hz else []
theorem HS_succ (n q : Nat) (hz : Nat → Nat) : HS n (q + 1) hz = HS n q hz ++ [hz q % n] := by simp [HS, List.range_succ]
theorem HS_len (n q : Nat) (hz : Nat → Nat) : (HS n q hz).length = q := by simp [HS]
theorem HSn_len (n q : Nat) (hz : Nat → Nat) : (HSn n q hz).length ≤ q := by
  unfold HSn
  split
  · rw [HS_len]; exact Nat.le_refl _
  · simp
theorem HSn_lt (n q : Nat) (hz : Nat → Nat) : ∀ i, i ∈ HSn n q hz → i < n := by
  intro i hi
  unfold HSn at hi
  split at hi
  · rename_i h
    simp only [HS, List.mem_map] at hi
    obtain ⟨j, _, rfl⟩ := hi
    exact Nat.mod_lt _ h
  · simp at hi
theorem size46 : (Yba.prog.info? 46).map (·.size) = some 1 := by kernel_rfl
theorem ptrs_one (K : Nat → Nat) (hs : List Nat) : ∀ v ∈ hs.map (fun i => Value.pointer (some ⟨K i, 0, none⟩)), v.oneCell' = true := by
  intro v hv
  rw [List.mem_map] at hv
  obtain ⟨i, _, rfl⟩ := hv
  rfl
theorem splice_all {α : Type} (L cs : List α) (h : L.length = cs.length) : splice L 0 cs = cs := by
  simp [splice, ← h]
def PP (l2 : Nat) (pz : Nat → Nat) : Nat → Nat := fun i => if i < l2 then pz i % 4 else 0

def stake0 : Array Value := #[.int .i64 0, .int .i64 0, .int .u64 0, .pointer none, .int .i64 0, .int .i64 0, .int .i64 0, .int .u64 0, .pointer none, .int .i64 0, .int .i64 0, .int .u64 0, .pointer none, .int .i64 0, .int .i64 0, .bool false, .int .i64 0, .int .i64 0, .int .u64 0, .pointer none, .int .i64 0, .int .i64 0, .int .u64 0, .pointer none, .bool false, .int .i64 0, .int .i64 0, .int .u64 0, .pointer none, .int .i64 0, .int .i64 0, .int .u64 0, .pointer none, .bool false, .slice none 0 0, .slice none 0 0, .bool false, .bool false, .bool false, .bool false, .int .u32 0]

def mkCells (k : Nat) : Array Value := #[.string ⟨#[]⟩, .int .i64 0, .int .i64 0, .int .i64 0, .int .i64 0, .int .i64 0, .slice none 0 0, .pointer none, .pointer none, .pointer none, .slice none 0 0, .int .i64 0, .int .i64 0, .pointer none, .int .i64 k, .pointer none, .pointer none, .pointer none, .pointer none, .pointer none, .pointer none, .int .i64 0, .int .u64 0, .int .u64 0, .int .u64 0, .slice none 0 0, .map none, .int .i64 0, .int .i64 0, .bool false, .slice none 0 0, .int .i64 0, .int .i64 0, .slice none 0 0, .int .i64 0, .slice none 0 0, .slice none 0 0, .slice none 0 0, .slice none 0 0, .slice none 0 0, .slice none 0 0, .slice none 0 0, .int .i64 0, .slice none 0 0, .slice none 0 0, .slice none 0 0]

theorem LA_len (l2 : Nat) (pz : Nat → Nat) (p : Value) (i : Nat) : (LA (PP l2 pz) p i).length ≤ 3 := by
  unfold LA PP
  rw [List.length_replicate]
  split <;> omega
theorem Mkt.plain {w : World} {b j : Nat} {v : Value} (h : Mkt w b j v) : Plain w b 74 := by
  obtain ⟨c, hc, _⟩ := h; exact ⟨c, hc⟩
theorem ext_cell {w0 w : World} {bO bM bS bA bP B0 n c d : Nat} {tch : Nat → Bool} {K : Nat → Nat} {V : Nat → Value} {L : Nat → List Value} {pr : Nat → Nat} {hv : Value} {H : List Value} {E : List (Nat × Array Value)}
    (h : Sit w0 w bO bM bS bA bP B0 n c d tch K V L pr hv H E) {x : Nat × Array Value} (hx : x ∈ E) {k : Nat} {v : Value} (hk : x.2[k]? = some v) : w.cell? ⟨x.1, k, none⟩ = some v := by
  have e := (h.ext x hx).2
  simp [World.cell?, e, hk]

section
variable {P : Program}
theorem run_neq_ptr_same (w : World) {tp te : TypeId} (a : Addr) (hp : P.underlying tp = some (.pointer te)) (hte : (P.info? te).isSome = true) :
    (binOp .neq tp (.pointer (some a)) (.pointer (some a))).run P w = .ok (.bool false) w := by
  obtain ⟨j, hj⟩ := Option.isSome_iff_exists.1 hte
  have h : ∀ d : Nat, (Op.equalIn (d + 1) tp (.pointer (some a)) (.pointer (some a))).run P w = .ok true w := fun d => by
    simp [Op.equalIn, run_underlying hp, sizeOf, typeInfo, hj, run_sameAddr_same]
  simp only [binOp]
  simp [Op.equal, Op.maxDepth, h 9999]
theorem run_eql_ptr (w : World) {tp te : TypeId} {a b : Addr} {ta tb : TypeId} (hp : P.underlying tp = some (.pointer te)) (hte : (P.info? te).map (fun j => decide (j.size ≠ 0)) = some true) (ha : Plain w a.block ta) (hb : Plain w b.block tb) :
    (binOp .eql tp (.pointer (some a)) (.pointer (some b))).run P w = .ok (.bool (decide (a = b))) w := by
  obtain ⟨j, hj, hs⟩ := Option.map_eq_some_iff.1 hte
  obtain ⟨ca, ha⟩ := ha
  obtain ⟨cb, hb⟩ := hb
  by_cases e : a = b
  · subst e
    rw [run_eql_ptr_same w a hp hj]
    simp
  · rw [run_eql_ptr_other w hp hj (by simpa using hs) e ha hb]
    simp [e]
end
theorem info74 : (Yba.prog.info? 74).isSome = true := by kernel_rfl
theorem info74' : (Yba.prog.info? 74).map (fun j => decide (j.size ≠ 0)) = some true := by kernel_rfl
theorem info30 : (Yba.prog.info? 30).isSome = true := by kernel_rfl
theorem size45 : (Yba.prog.info? 45).map (·.size) = some 41 := by kernel_rfl
theorem there_new (w : World) (ob : Array Value) (h : ob.size = 41) : (w.alloc (.cells ob 45)).there w.heap.size 0 41 := by
  have e := heap_alloc_new w (.cells ob 45)
  intro j hj
  rw [Nat.zero_add]
  constructor
  · simp only [World.cell?, e]
    simp [Array.getElem?_eq_getElem (show j < ob.size by omega)]
  · unfold World.frozen?
    rw [e]
    simp
theorem below_cells {B b : Nat} {a : World} (hb : B ≤ b) : ∀ (vs : List Value) (o : Nat) (w : World), Below B a w → Below B a (w.setCells b o vs)
  | [], _, _, h => h
  | v :: r, o, w, h => below_cells hb r (o + 1) _ (h.setCell (p := ⟨b, o, none⟩) hb v)
theorem copied (w : World) (cs : List Value) (hl : cs.length = 41) (h1 : ∀ v ∈ cs, v.oneCell' = true) (ob : Array Value) (h : ob.size = 41) :
    Below w.heap.size w ((w.alloc (.cells ob 45)).setCells w.heap.size 0 cs) ∧ ∀ i v, cs[i]? = some v → ((w.alloc (.cells ob 45)).setCells w.heap.size 0 cs).cell? ⟨w.heap.size, i, none⟩ = some v := by
  refine ⟨below_cells (Nat.le_refl _) _ _ _ ((Below.refl _ _).alloc (Nat.le_refl _) _), fun i v hv => ?_⟩
  have := World.rangeAt_setCells_same (w.alloc (.cells ob 45)) w.heap.size 0 cs (by rw [hl]; exact there_new w ob h) i v hv
  rwa [Nat.zero_add] at this
theorem ownShape {w0 w : World} {bO bM bS bA bP B0 n c k l2 : Nat} {T : Nat → Bool} {pz : Nat → Nat} {hs : List Nat} {K : Nat → Nat} {V : Nat → Value} {pO pA' : Value} {pr : Nat → Nat} {hv : Value} {H : List Value} {E : List (Nat × Array Value)} (hk : k < n)
    (h : Sit w0 w bO bM bS bA bP B0 n c n (tk (tA T n) hs hs.length) K V (Lk (tA T n) (LA (PP l2 pz) pO) pA' hs hs.length) pr hv H E) :
    ∃ a cap, V k = .slice a (PP l2 pz k + (if (!T k && has hs k) = true then 1 else 0)) cap ∧
      (0 < PP l2 pz k + (if (!T k && has hs k) = true then 1 else 0) → ∃ g, a = some ⟨g, 0, none⟩ ∧ (∀ i, i < PP l2 pz k → w.cell? ⟨g, i, none⟩ = some pO) ∧
        (PP l2 pz k < PP l2 pz k + (if (!T k && has hs k) = true then 1 else 0) → w.cell? ⟨g, PP l2 pz k, none⟩ = some pA')) := by
  have hL : Lk (tA T n) (LA (PP l2 pz) pO) pA' hs hs.length k = List.replicate (PP l2 pz k) pO ++ (if (!T k && has hs k) = true then [pA'] else []) := by
    unfold Lk LA tA
    rw [if_pos hk, List.take_of_length_le (Nat.le_refl _)]
  have ho := h.own k hk
  rw [hL] at ho
  generalize PP l2 pz k = m at *
  generalize (!T k && has hs k) = x at *
  have hlen : (List.replicate m pO ++ (if x = true then [pA'] else [])).length = m + (if x = true then 1 else 0) := by cases x <;> simp
  rw [hlen] at ho
  rcases ho.2 with ⟨e, e0⟩ | ⟨g, cap, cur, e, _⟩
  · exact ⟨none, 0, by rw [e, e0], fun h => by omega⟩
  · refine ⟨_, cap, e, fun _ => ⟨g, rfl, fun i hi => ?_, fun hx => ?_⟩⟩
    · have := ho.cells (g := g) (by rw [e]; rfl) i pO (by rw [List.getElem?_append_left (by simpa using hi)]; simp [hi])
      rwa [Addr.add_mid, Nat.zero_add] at this
    · have hxt : x = true := by cases x <;> simp_all
      subst hxt
      have := ho.cells (g := g) (by rw [e]; rfl) m pA' (by simp)
      rwa [Addr.add_mid, Nat.zero_add] at this
theorem undrew {w w' : World} {row : Option Nat} (h : w.drew.grownBy w' row) : w.grownBy w' row := ⟨h.os, h.tape, h.output, h.size, h.block⟩
theorem Sit.accAfter {w0 w w2 : World} {bO bM bS bA bP B0 n c d : Nat} {tch : Nat → Bool} {K : Nat → Nat} {V : Nat → Value} {L : Nat → List Value} {pr : Nat → Nat} {hv : Value} {H : List Value} {E : List (Nat × Array Value)}
    (h : Sit w0 w bO bM bS bA bP B0 n c d tch K V L pr hv H E) (o : Obj) (hgrow : (w.alloc o).grownBy w2 hv.ownBlock) : Acc w2 bA bS n hv := by
  have o4 := h.o4; have o5 := h.o5; have o6 := h.o6
  exact h.acc.of ((hgrow.block _ (by simp; omega) (fun e => by have := (h.kindH _ e.symm).1; omega)).trans (Below.heap_alloc _ _ _ (by omega)))

theorem zero45 : ∃ i z, Yba.prog.info? 45 = some i ∧ i.zero = some z ∧ i.size = 41 ∧ i.bytes = 328 ∧ z.cells.size = 41 ∧ z.cells[39]! = .bool false ∧ z.cells[0]! = .int .i64 0 ∧ z.cells[36]! = .bool false ∧ z.cells[37]! = .bool false ∧ z.cells[38]! = .bool false ∧ z.cells[40]! = .int .u32 0 ∧ ((List.range 41).all (fun r => z.cells[r]!.oneCell')) = true := by
  have h : (Yba.prog.info? 45).map (fun i => (i.zero.map (fun z => (z.cells.size, z.cells[39]!, z.cells[0]!, z.cells[36]!, z.cells[37]!, z.cells[38]!, z.cells[40]!, ((List.range 41).all (fun r => z.cells[r]!.oneCell')))), i.size, i.bytes)) = some (some (41, .bool false, .int .i64 0, .bool false, .bool false, .bool false, .int .u32 0, true), 41, 328) := by kernel_rfl
  obtain ⟨i, hi, h2⟩ := Option.map_eq_some_iff.1 h
  simp only [Prod.mk.injEq] at h2
  obtain ⟨h3, h4, h5⟩ := h2
  obtain ⟨z, hz, h6⟩ := Option.map_eq_some_iff.1 h3
  simp only [Prod.mk.injEq] at h6
  exact ⟨i, z, hi, hz, h4, h5, h6⟩


/-- By what a loop is found again in the function's text: its first region's number. -/
def headRegion : Code → Option Nat
  | .region id _ _ => some id
  | .seq a _ => headRegion a
  | .block _ c => headRegion c
  | _ => none
def findLoop (n : Nat) : Code → Option Code
  | .loop c => if headRegion c == some n then some (.loop c) else findLoop n c
  | .seq a b => match findLoop n a with
    | some c => some c
    | none => findLoop n b
  | .block _ c => findLoop n c
  | .scope c => findLoop n c
  | .cond _ a b => match findLoop n a with
    | some c => some c
    | none => findLoop n b
  | _ => none

/-- What a frame's slots hold: by this one letter all slots that a piece of the proof does not speak of are carried. -/
def sl (a : Act) : Nat → Value := fun i => a.tmps.getD i undef

/-- What is asked behind a piece: of a panic nothing that hangs on the slots (the law on regions that draw their order wants that by evaluation). -/
def QQ (R : Ending → World → Prop) (X : Exit → Act → World → Prop) : Exit → Act → World → Prop
  | .panic ch, a, w => a.defers = [] ∧ R (.panicked ch) w
  | .normal, a, w => X .normal a w
  | .exit i, a, w => X (.exit i) a w
  | .goto l, a, w => X (.goto l) a w
  | .ret, a, w => X .ret a w
  | .outgrown, a, w => X .outgrown a w

theorem wp_QQ {P : Program} {c : Code} {a : Act} {w : World} {R : Ending → World → Prop} {Q : Exit → Act → World → Prop} (hp : ∀ ch a w, (a.defers = [] ∧ R (.panicked ch) w) → Q (.panic ch) a w)
    (h : Code.wp P c (QQ R Q) a w) : Code.wp P c Q a w :=
  wp_mono h fun e a w h => by cases e <;> first | exact hp _ _ _ h | exact h

/-- A LOOP by an invariant over a ghost x, whose measure every round lowers. -/
theorem wp_loop_hand {P : Program} {Q : Exit → Act → World → Prop} {c : Code} {X : Type} (I : X → Act → World → Prop) (μ : X → Nat) (x0 : X) {a : Act} {w : World} (h0 : I x0 a w)
    (round : ∀ x a w, I x a w → ∀ K : Act → World → Prop, Hid (∀ x' a' w', I x' a' w' → μ x' < μ x → K a' w') → c.wp P (Exit.then K Q) a w) : (Code.loop c).wp P Q a w := by
  refine wp_loop_ghost (fun n a w => ∃ x, μ x = n ∧ I x a w) (μ x0) ⟨x0, rfl, h0⟩ ?_
  rintro n a w ⟨x, rfl, hI⟩
  exact round x a w hI _ (fun x' a' w' h hlt => ⟨μ x', hlt, x', rfl, h⟩)

set_option maxRecDepth 100000
def fA (a0 a1 a2 : Option Addr) (n l1 l2 c0 c1 c2 bO bM bA bP : Nat) (x12 : Value) (U : Nat → Value) : Act := ⟨List.toArray (.slice a0 n c0 :: .slice a1 l1 c1 :: .slice a2 l2 c2 :: U 3 :: U 4 :: U 5 :: U 6 :: .int .i64 n :: .pointer (some ⟨bO, 0, none⟩) :: .slice (some ⟨bM, 0, none⟩) n n :: .pointer (some ⟨bA, 0, none⟩) :: .slice (some ⟨bP, 0, none⟩) n n :: x12 :: U 13 :: U 14 :: U 15 :: U 16 :: U 17 :: U 18 :: U 19 :: U 20 :: U 21 :: U 22 :: U 23 :: U 24 :: U 25 :: U 26 :: U 27 :: U 28 :: U 29 :: U 30 :: U 31 :: U 32 :: U 33 :: U 34 :: U 35 :: U 36 :: U 37 :: U 38 :: U 39 :: U 40 :: U 41 :: U 42 :: U 43 :: U 44 :: U 45 :: U 46 :: U 47 :: U 48 :: U 49 :: U 50 :: U 51 :: U 52 :: U 53 :: U 54 :: U 55 :: U 56 :: U 57 :: U 58 :: U 59 :: U 60 :: U 61 :: U 62 :: U 63 :: U 64 :: U 65 :: U 66 :: U 67 :: U 68 :: U 69 :: U 70 :: U 71 :: U 72 :: U 73 :: U 74 :: U 75 :: U 76 :: U 77 :: U 78 :: U 79 :: U 80 :: U 81 :: U 82 :: U 83 :: U 84 :: U 85 :: U 86 :: U 87 :: U 88 :: U 89 :: U 90 :: U 91 :: U 92 :: U 93 :: U 94 :: U 95 :: U 96 :: U 97 :: U 98 :: U 99 :: U 100 :: U 101 :: U 102 :: U 103 :: U 104 :: U 105 :: U 106 :: U 107 :: U 108 :: U 109 :: U 110 :: U 111 :: U 112 :: U 113 :: U 114 :: U 115 :: U 116 :: U 117 :: U 118 :: U 119 :: U 120 :: U 121 :: U 122 :: U 123 :: U 124 :: U 125 :: U 126 :: U 127 :: U 128 :: U 129 :: U 130 :: U 131 :: U 132 :: U 133 :: U 134 :: U 135 :: U 136 :: U 137 :: U 138 :: U 139 :: U 140 :: U 141 :: U 142 :: U 143 :: U 144 :: U 145 :: U 146 :: U 147 :: U 148 :: U 149 :: U 150 :: U 151 :: U 152 :: U 153 :: U 154 :: U 155 :: U 156 :: U 157 :: U 158 :: U 159 :: U 160 :: U 161 :: U 162 :: U 163 :: U 164 :: U 165 :: U 166 :: U 167 :: U 168 :: U 169 :: U 170 :: U 171 :: U 172 :: U 173 :: U 174 :: U 175 :: U 176 :: U 177 :: U 178 :: U 179 :: U 180 :: U 181 :: U 182 :: U 183 :: U 184 :: U 185 :: U 186 :: U 187 :: U 188 :: U 189 :: U 190 :: U 191 :: U 192 :: U 193 :: U 194 :: U 195 :: U 196 :: U 197 :: U 198 :: U 199 :: U 200 :: U 201 :: U 202 :: U 203 :: U 204 :: U 205 :: U 206 :: U 207 :: U 208 :: U 209 :: U 210 :: U 211 :: U 212 :: U 213 :: U 214 :: U 215 :: U 216 :: U 217 :: U 218 :: U 219 :: U 220 :: U 221 :: U 222 :: U 223 :: U 224 :: U 225 :: U 226 :: U 227 :: U 228 :: U 229 :: U 230 :: U 231 :: U 232 :: U 233 :: U 234 :: U 235 :: U 236 :: U 237 :: U 238 :: U 239 :: U 240 :: U 241 :: U 242 :: U 243 :: U 244 :: U 245 :: U 246 :: U 247 :: U 248 :: U 249 :: U 250 :: U 251 :: U 252 :: U 253 :: U 254 :: U 255 :: U 256 :: U 257 :: U 258 :: U 259 :: U 260 :: U 261 :: U 262 :: U 263 :: U 264 :: U 265 :: U 266 :: U 267 :: U 268 :: U 269 :: U 270 :: U 271 :: U 272 :: U 273 :: U 274 :: U 275 :: U 276 :: U 277 :: U 278 :: U 279 :: U 280 :: U 281 :: U 282 :: U 283 :: U 284 :: U 285 :: U 286 :: U 287 :: U 288 :: U 289 :: U 290 :: U 291 :: U 292 :: U 293 :: []), []⟩
def fB (a0 a1 a2 : Option Addr) (n l1 l2 c0 c1 c2 bO bM bA bP : Nat) (x12 x13 x14 x15 : Value) (U : Nat → Value) : Act := ⟨List.toArray (.slice a0 n c0 :: .slice a1 l1 c1 :: .slice a2 l2 c2 :: U 3 :: U 4 :: U 5 :: U 6 :: .int .i64 n :: .pointer (some ⟨bO, 0, none⟩) :: .slice (some ⟨bM, 0, none⟩) n n :: .pointer (some ⟨bA, 0, none⟩) :: .slice (some ⟨bP, 0, none⟩) n n :: x12 :: x13 :: x14 :: x15 :: U 16 :: U 17 :: U 18 :: U 19 :: U 20 :: U 21 :: U 22 :: U 23 :: U 24 :: U 25 :: U 26 :: U 27 :: U 28 :: U 29 :: U 30 :: U 31 :: U 32 :: U 33 :: U 34 :: U 35 :: U 36 :: U 37 :: U 38 :: U 39 :: U 40 :: U 41 :: U 42 :: U 43 :: U 44 :: U 45 :: U 46 :: U 47 :: U 48 :: U 49 :: U 50 :: U 51 :: U 52 :: U 53 :: U 54 :: U 55 :: U 56 :: U 57 :: U 58 :: U 59 :: U 60 :: U 61 :: U 62 :: U 63 :: U 64 :: U 65 :: U 66 :: U 67 :: U 68 :: U 69 :: U 70 :: U 71 :: U 72 :: U 73 :: U 74 :: U 75 :: U 76 :: U 77 :: U 78 :: U 79 :: U 80 :: U 81 :: U 82 :: U 83 :: U 84 :: U 85 :: U 86 :: U 87 :: U 88 :: U 89 :: U 90 :: U 91 :: U 92 :: U 93 :: U 94 :: U 95 :: U 96 :: U 97 :: U 98 :: U 99 :: U 100 :: U 101 :: U 102 :: U 103 :: U 104 :: U 105 :: U 106 :: U 107 :: U 108 :: U 109 :: U 110 :: U 111 :: U 112 :: U 113 :: U 114 :: U 115 :: U 116 :: U 117 :: U 118 :: U 119 :: U 120 :: U 121 :: U 122 :: U 123 :: U 124 :: U 125 :: U 126 :: U 127 :: U 128 :: U 129 :: U 130 :: U 131 :: U 132 :: U 133 :: U 134 :: U 135 :: U 136 :: U 137 :: U 138 :: U 139 :: U 140 :: U 141 :: U 142 :: U 143 :: U 144 :: U 145 :: U 146 :: U 147 :: U 148 :: U 149 :: U 150 :: U 151 :: U 152 :: U 153 :: U 154 :: U 155 :: U 156 :: U 157 :: U 158 :: U 159 :: U 160 :: U 161 :: U 162 :: U 163 :: U 164 :: U 165 :: U 166 :: U 167 :: U 168 :: U 169 :: U 170 :: U 171 :: U 172 :: U 173 :: U 174 :: U 175 :: U 176 :: U 177 :: U 178 :: U 179 :: U 180 :: U 181 :: U 182 :: U 183 :: U 184 :: U 185 :: U 186 :: U 187 :: U 188 :: U 189 :: U 190 :: U 191 :: U 192 :: U 193 :: U 194 :: U 195 :: U 196 :: U 197 :: U 198 :: U 199 :: U 200 :: U 201 :: U 202 :: U 203 :: U 204 :: U 205 :: U 206 :: U 207 :: U 208 :: U 209 :: U 210 :: U 211 :: U 212 :: U 213 :: U 214 :: U 215 :: U 216 :: U 217 :: U 218 :: U 219 :: U 220 :: U 221 :: U 222 :: U 223 :: U 224 :: U 225 :: U 226 :: U 227 :: U 228 :: U 229 :: U 230 :: U 231 :: U 232 :: U 233 :: U 234 :: U 235 :: U 236 :: U 237 :: U 238 :: U 239 :: U 240 :: U 241 :: U 242 :: U 243 :: U 244 :: U 245 :: U 246 :: U 247 :: U 248 :: U 249 :: U 250 :: U 251 :: U 252 :: U 253 :: U 254 :: U 255 :: U 256 :: U 257 :: U 258 :: U 259 :: U 260 :: U 261 :: U 262 :: U 263 :: U 264 :: U 265 :: U 266 :: U 267 :: U 268 :: U 269 :: U 270 :: U 271 :: U 272 :: U 273 :: U 274 :: U 275 :: U 276 :: U 277 :: U 278 :: U 279 :: U 280 :: U 281 :: U 282 :: U 283 :: U 284 :: U 285 :: U 286 :: U 287 :: U 288 :: U 289 :: U 290 :: U 291 :: U 292 :: U 293 :: []), []⟩
def fC (a0 a1 a2 : Option Addr) (n l1 l2 c0 c1 c2 bO bM bA bP : Nat) (x110 x111 x112 : Value) (U : Nat → Value) : Act := ⟨List.toArray (.slice a0 n c0 :: .slice a1 l1 c1 :: .slice a2 l2 c2 :: U 3 :: U 4 :: U 5 :: U 6 :: .int .i64 n :: .pointer (some ⟨bO, 0, none⟩) :: .slice (some ⟨bM, 0, none⟩) n n :: .pointer (some ⟨bA, 0, none⟩) :: .slice (some ⟨bP, 0, none⟩) n n :: U 12 :: U 13 :: U 14 :: U 15 :: U 16 :: U 17 :: U 18 :: U 19 :: U 20 :: U 21 :: U 22 :: U 23 :: U 24 :: U 25 :: U 26 :: U 27 :: U 28 :: U 29 :: U 30 :: U 31 :: U 32 :: U 33 :: U 34 :: U 35 :: U 36 :: U 37 :: U 38 :: U 39 :: U 40 :: U 41 :: U 42 :: U 43 :: U 44 :: U 45 :: U 46 :: U 47 :: U 48 :: U 49 :: U 50 :: U 51 :: U 52 :: U 53 :: U 54 :: U 55 :: U 56 :: U 57 :: U 58 :: U 59 :: U 60 :: U 61 :: U 62 :: U 63 :: U 64 :: U 65 :: U 66 :: U 67 :: U 68 :: U 69 :: U 70 :: U 71 :: U 72 :: U 73 :: U 74 :: U 75 :: U 76 :: U 77 :: U 78 :: U 79 :: U 80 :: U 81 :: U 82 :: U 83 :: U 84 :: U 85 :: U 86 :: U 87 :: U 88 :: U 89 :: U 90 :: U 91 :: U 92 :: U 93 :: U 94 :: U 95 :: U 96 :: U 97 :: U 98 :: U 99 :: U 100 :: U 101 :: U 102 :: U 103 :: U 104 :: U 105 :: U 106 :: U 107 :: U 108 :: U 109 :: x110 :: x111 :: x112 :: U 113 :: U 114 :: U 115 :: U 116 :: U 117 :: U 118 :: U 119 :: U 120 :: U 121 :: U 122 :: U 123 :: U 124 :: U 125 :: U 126 :: U 127 :: U 128 :: U 129 :: U 130 :: U 131 :: U 132 :: U 133 :: U 134 :: U 135 :: U 136 :: U 137 :: U 138 :: U 139 :: U 140 :: U 141 :: U 142 :: U 143 :: U 144 :: U 145 :: U 146 :: U 147 :: U 148 :: U 149 :: U 150 :: U 151 :: U 152 :: U 153 :: U 154 :: U 155 :: U 156 :: U 157 :: U 158 :: U 159 :: U 160 :: U 161 :: U 162 :: U 163 :: U 164 :: U 165 :: U 166 :: U 167 :: U 168 :: U 169 :: U 170 :: U 171 :: U 172 :: U 173 :: U 174 :: U 175 :: U 176 :: U 177 :: U 178 :: U 179 :: U 180 :: U 181 :: U 182 :: U 183 :: U 184 :: U 185 :: U 186 :: U 187 :: U 188 :: U 189 :: U 190 :: U 191 :: U 192 :: U 193 :: U 194 :: U 195 :: U 196 :: U 197 :: U 198 :: U 199 :: U 200 :: U 201 :: U 202 :: U 203 :: U 204 :: U 205 :: U 206 :: U 207 :: U 208 :: U 209 :: U 210 :: U 211 :: U 212 :: U 213 :: U 214 :: U 215 :: U 216 :: U 217 :: U 218 :: U 219 :: U 220 :: U 221 :: U 222 :: U 223 :: U 224 :: U 225 :: U 226 :: U 227 :: U 228 :: U 229 :: U 230 :: U 231 :: U 232 :: U 233 :: U 234 :: U 235 :: U 236 :: U 237 :: U 238 :: U 239 :: U 240 :: U 241 :: U 242 :: U 243 :: U 244 :: U 245 :: U 246 :: U 247 :: U 248 :: U 249 :: U 250 :: U 251 :: U 252 :: U 253 :: U 254 :: U 255 :: U 256 :: U 257 :: U 258 :: U 259 :: U 260 :: U 261 :: U 262 :: U 263 :: U 264 :: U 265 :: U 266 :: U 267 :: U 268 :: U 269 :: U 270 :: U 271 :: U 272 :: U 273 :: U 274 :: U 275 :: U 276 :: U 277 :: U 278 :: U 279 :: U 280 :: U 281 :: U 282 :: U 283 :: U 284 :: U 285 :: U 286 :: U 287 :: U 288 :: U 289 :: U 290 :: U 291 :: U 292 :: U 293 :: []), []⟩
def fD (a0 a1 a2 : Option Addr) (n l1 l2 c0 c1 c2 bO bM bA bP : Nat) (x18 x156 x157 : Value) (U : Nat → Value) : Act := ⟨List.toArray (.slice a0 n c0 :: .slice a1 l1 c1 :: .slice a2 l2 c2 :: U 3 :: U 4 :: U 5 :: U 6 :: .int .i64 n :: .pointer (some ⟨bO, 0, none⟩) :: .slice (some ⟨bM, 0, none⟩) n n :: .pointer (some ⟨bA, 0, none⟩) :: .slice (some ⟨bP, 0, none⟩) n n :: U 12 :: U 13 :: U 14 :: U 15 :: U 16 :: U 17 :: x18 :: U 19 :: U 20 :: U 21 :: U 22 :: U 23 :: U 24 :: U 25 :: U 26 :: U 27 :: U 28 :: U 29 :: U 30 :: U 31 :: U 32 :: U 33 :: U 34 :: U 35 :: U 36 :: U 37 :: U 38 :: U 39 :: U 40 :: U 41 :: U 42 :: U 43 :: U 44 :: U 45 :: U 46 :: U 47 :: U 48 :: U 49 :: U 50 :: U 51 :: U 52 :: U 53 :: U 54 :: U 55 :: U 56 :: U 57 :: U 58 :: U 59 :: U 60 :: U 61 :: U 62 :: U 63 :: U 64 :: U 65 :: U 66 :: U 67 :: U 68 :: U 69 :: U 70 :: U 71 :: U 72 :: U 73 :: U 74 :: U 75 :: U 76 :: U 77 :: U 78 :: U 79 :: U 80 :: U 81 :: U 82 :: U 83 :: U 84 :: U 85 :: U 86 :: U 87 :: U 88 :: U 89 :: U 90 :: U 91 :: U 92 :: U 93 :: U 94 :: U 95 :: U 96 :: U 97 :: U 98 :: U 99 :: U 100 :: U 101 :: U 102 :: U 103 :: U 104 :: U 105 :: U 106 :: U 107 :: U 108 :: U 109 :: U 110 :: U 111 :: U 112 :: U 113 :: U 114 :: U 115 :: U 116 :: U 117 :: U 118 :: U 119 :: U 120 :: U 121 :: U 122 :: U 123 :: U 124 :: U 125 :: U 126 :: U 127 :: U 128 :: U 129 :: U 130 :: U 131 :: U 132 :: U 133 :: U 134 :: U 135 :: U 136 :: U 137 :: U 138 :: U 139 :: U 140 :: U 141 :: U 142 :: U 143 :: U 144 :: U 145 :: U 146 :: U 147 :: U 148 :: U 149 :: U 150 :: U 151 :: U 152 :: U 153 :: U 154 :: U 155 :: x156 :: x157 :: U 158 :: U 159 :: U 160 :: U 161 :: U 162 :: U 163 :: U 164 :: U 165 :: U 166 :: U 167 :: U 168 :: U 169 :: U 170 :: U 171 :: U 172 :: U 173 :: U 174 :: U 175 :: U 176 :: U 177 :: U 178 :: U 179 :: U 180 :: U 181 :: U 182 :: U 183 :: U 184 :: U 185 :: U 186 :: U 187 :: U 188 :: U 189 :: U 190 :: U 191 :: U 192 :: U 193 :: U 194 :: U 195 :: U 196 :: U 197 :: U 198 :: U 199 :: U 200 :: U 201 :: U 202 :: U 203 :: U 204 :: U 205 :: U 206 :: U 207 :: U 208 :: U 209 :: U 210 :: U 211 :: U 212 :: U 213 :: U 214 :: U 215 :: U 216 :: U 217 :: U 218 :: U 219 :: U 220 :: U 221 :: U 222 :: U 223 :: U 224 :: U 225 :: U 226 :: U 227 :: U 228 :: U 229 :: U 230 :: U 231 :: U 232 :: U 233 :: U 234 :: U 235 :: U 236 :: U 237 :: U 238 :: U 239 :: U 240 :: U 241 :: U 242 :: U 243 :: U 244 :: U 245 :: U 246 :: U 247 :: U 248 :: U 249 :: U 250 :: U 251 :: U 252 :: U 253 :: U 254 :: U 255 :: U 256 :: U 257 :: U 258 :: U 259 :: U 260 :: U 261 :: U 262 :: U 263 :: U 264 :: U 265 :: U 266 :: U 267 :: U 268 :: U 269 :: U 270 :: U 271 :: U 272 :: U 273 :: U 274 :: U 275 :: U 276 :: U 277 :: U 278 :: U 279 :: U 280 :: U 281 :: U 282 :: U 283 :: U 284 :: U 285 :: U 286 :: U 287 :: U 288 :: U 289 :: U 290 :: U 291 :: U 292 :: U 293 :: []), []⟩
def fE (a0 a1 a2 : Option Addr) (n l1 l2 c0 c1 c2 bO bM bA bP : Nat) (x18 x20 : Value) (U : Nat → Value) : Act := ⟨List.toArray (.slice a0 n c0 :: .slice a1 l1 c1 :: .slice a2 l2 c2 :: U 3 :: U 4 :: U 5 :: U 6 :: .int .i64 n :: .pointer (some ⟨bO, 0, none⟩) :: .slice (some ⟨bM, 0, none⟩) n n :: .pointer (some ⟨bA, 0, none⟩) :: .slice (some ⟨bP, 0, none⟩) n n :: U 12 :: U 13 :: U 14 :: U 15 :: U 16 :: U 17 :: x18 :: U 19 :: x20 :: U 21 :: U 22 :: U 23 :: U 24 :: U 25 :: U 26 :: U 27 :: U 28 :: U 29 :: U 30 :: U 31 :: U 32 :: U 33 :: U 34 :: U 35 :: U 36 :: U 37 :: U 38 :: U 39 :: U 40 :: U 41 :: U 42 :: U 43 :: U 44 :: U 45 :: U 46 :: U 47 :: U 48 :: U 49 :: U 50 :: U 51 :: U 52 :: U 53 :: U 54 :: U 55 :: U 56 :: U 57 :: U 58 :: U 59 :: U 60 :: U 61 :: U 62 :: U 63 :: U 64 :: U 65 :: U 66 :: U 67 :: U 68 :: U 69 :: U 70 :: U 71 :: U 72 :: U 73 :: U 74 :: U 75 :: U 76 :: U 77 :: U 78 :: U 79 :: U 80 :: U 81 :: U 82 :: U 83 :: U 84 :: U 85 :: U 86 :: U 87 :: U 88 :: U 89 :: U 90 :: U 91 :: U 92 :: U 93 :: U 94 :: U 95 :: U 96 :: U 97 :: U 98 :: U 99 :: U 100 :: U 101 :: U 102 :: U 103 :: U 104 :: U 105 :: U 106 :: U 107 :: U 108 :: U 109 :: U 110 :: U 111 :: U 112 :: U 113 :: U 114 :: U 115 :: U 116 :: U 117 :: U 118 :: U 119 :: U 120 :: U 121 :: U 122 :: U 123 :: U 124 :: U 125 :: U 126 :: U 127 :: U 128 :: U 129 :: U 130 :: U 131 :: U 132 :: U 133 :: U 134 :: U 135 :: U 136 :: U 137 :: U 138 :: U 139 :: U 140 :: U 141 :: U 142 :: U 143 :: U 144 :: U 145 :: U 146 :: U 147 :: U 148 :: U 149 :: U 150 :: U 151 :: U 152 :: U 153 :: U 154 :: U 155 :: U 156 :: U 157 :: U 158 :: U 159 :: U 160 :: U 161 :: U 162 :: U 163 :: U 164 :: U 165 :: U 166 :: U 167 :: U 168 :: U 169 :: U 170 :: U 171 :: U 172 :: U 173 :: U 174 :: U 175 :: U 176 :: U 177 :: U 178 :: U 179 :: U 180 :: U 181 :: U 182 :: U 183 :: U 184 :: U 185 :: U 186 :: U 187 :: U 188 :: U 189 :: U 190 :: U 191 :: U 192 :: U 193 :: U 194 :: U 195 :: U 196 :: U 197 :: U 198 :: U 199 :: U 200 :: U 201 :: U 202 :: U 203 :: U 204 :: U 205 :: U 206 :: U 207 :: U 208 :: U 209 :: U 210 :: U 211 :: U 212 :: U 213 :: U 214 :: U 215 :: U 216 :: U 217 :: U 218 :: U 219 :: U 220 :: U 221 :: U 222 :: U 223 :: U 224 :: U 225 :: U 226 :: U 227 :: U 228 :: U 229 :: U 230 :: U 231 :: U 232 :: U 233 :: U 234 :: U 235 :: U 236 :: U 237 :: U 238 :: U 239 :: U 240 :: U 241 :: U 242 :: U 243 :: U 244 :: U 245 :: U 246 :: U 247 :: U 248 :: U 249 :: U 250 :: U 251 :: U 252 :: U 253 :: U 254 :: U 255 :: U 256 :: U 257 :: U 258 :: U 259 :: U 260 :: U 261 :: U 262 :: U 263 :: U 264 :: U 265 :: U 266 :: U 267 :: U 268 :: U 269 :: U 270 :: U 271 :: U 272 :: U 273 :: U 274 :: U 275 :: U 276 :: U 277 :: U 278 :: U 279 :: U 280 :: U 281 :: U 282 :: U 283 :: U 284 :: U 285 :: U 286 :: U 287 :: U 288 :: U 289 :: U 290 :: U 291 :: U 292 :: U 293 :: []), []⟩
def fF (a0 a1 a2 : Option Addr) (n l1 l2 c0 c1 c2 bO bM bA bP : Nat) (x18 x20 x21 x185 x186 x187 : Value) (U : Nat → Value) : Act := ⟨List.toArray (.slice a0 n c0 :: .slice a1 l1 c1 :: .slice a2 l2 c2 :: U 3 :: U 4 :: U 5 :: U 6 :: .int .i64 n :: .pointer (some ⟨bO, 0, none⟩) :: .slice (some ⟨bM, 0, none⟩) n n :: .pointer (some ⟨bA, 0, none⟩) :: .slice (some ⟨bP, 0, none⟩) n n :: U 12 :: U 13 :: U 14 :: U 15 :: U 16 :: U 17 :: x18 :: U 19 :: x20 :: x21 :: U 22 :: U 23 :: U 24 :: U 25 :: U 26 :: U 27 :: U 28 :: U 29 :: U 30 :: U 31 :: U 32 :: U 33 :: U 34 :: U 35 :: U 36 :: U 37 :: U 38 :: U 39 :: U 40 :: U 41 :: U 42 :: U 43 :: U 44 :: U 45 :: U 46 :: U 47 :: U 48 :: U 49 :: U 50 :: U 51 :: U 52 :: U 53 :: U 54 :: U 55 :: U 56 :: U 57 :: U 58 :: U 59 :: U 60 :: U 61 :: U 62 :: U 63 :: U 64 :: U 65 :: U 66 :: U 67 :: U 68 :: U 69 :: U 70 :: U 71 :: U 72 :: U 73 :: U 74 :: U 75 :: U 76 :: U 77 :: U 78 :: U 79 :: U 80 :: U 81 :: U 82 :: U 83 :: U 84 :: U 85 :: U 86 :: U 87 :: U 88 :: U 89 :: U 90 :: U 91 :: U 92 :: U 93 :: U 94 :: U 95 :: U 96 :: U 97 :: U 98 :: U 99 :: U 100 :: U 101 :: U 102 :: U 103 :: U 104 :: U 105 :: U 106 :: U 107 :: U 108 :: U 109 :: U 110 :: U 111 :: U 112 :: U 113 :: U 114 :: U 115 :: U 116 :: U 117 :: U 118 :: U 119 :: U 120 :: U 121 :: U 122 :: U 123 :: U 124 :: U 125 :: U 126 :: U 127 :: U 128 :: U 129 :: U 130 :: U 131 :: U 132 :: U 133 :: U 134 :: U 135 :: U 136 :: U 137 :: U 138 :: U 139 :: U 140 :: U 141 :: U 142 :: U 143 :: U 144 :: U 145 :: U 146 :: U 147 :: U 148 :: U 149 :: U 150 :: U 151 :: U 152 :: U 153 :: U 154 :: U 155 :: U 156 :: U 157 :: U 158 :: U 159 :: U 160 :: U 161 :: U 162 :: U 163 :: U 164 :: U 165 :: U 166 :: U 167 :: U 168 :: U 169 :: U 170 :: U 171 :: U 172 :: U 173 :: U 174 :: U 175 :: U 176 :: U 177 :: U 178 :: U 179 :: U 180 :: U 181 :: U 182 :: U 183 :: U 184 :: x185 :: x186 :: x187 :: U 188 :: U 189 :: U 190 :: U 191 :: U 192 :: U 193 :: U 194 :: U 195 :: U 196 :: U 197 :: U 198 :: U 199 :: U 200 :: U 201 :: U 202 :: U 203 :: U 204 :: U 205 :: U 206 :: U 207 :: U 208 :: U 209 :: U 210 :: U 211 :: U 212 :: U 213 :: U 214 :: U 215 :: U 216 :: U 217 :: U 218 :: U 219 :: U 220 :: U 221 :: U 222 :: U 223 :: U 224 :: U 225 :: U 226 :: U 227 :: U 228 :: U 229 :: U 230 :: U 231 :: U 232 :: U 233 :: U 234 :: U 235 :: U 236 :: U 237 :: U 238 :: U 239 :: U 240 :: U 241 :: U 242 :: U 243 :: U 244 :: U 245 :: U 246 :: U 247 :: U 248 :: U 249 :: U 250 :: U 251 :: U 252 :: U 253 :: U 254 :: U 255 :: U 256 :: U 257 :: U 258 :: U 259 :: U 260 :: U 261 :: U 262 :: U 263 :: U 264 :: U 265 :: U 266 :: U 267 :: U 268 :: U 269 :: U 270 :: U 271 :: U 272 :: U 273 :: U 274 :: U 275 :: U 276 :: U 277 :: U 278 :: U 279 :: U 280 :: U 281 :: U 282 :: U 283 :: U 284 :: U 285 :: U 286 :: U 287 :: U 288 :: U 289 :: U 290 :: U 291 :: U 292 :: U 293 :: []), []⟩
def fG (a0 a1 a2 : Option Addr) (n l1 l2 c0 c1 c2 bO bM bA bP : Nat) (x18 x20 x25 x26 x27 x28 : Value) (U : Nat → Value) : Act := ⟨List.toArray (.slice a0 n c0 :: .slice a1 l1 c1 :: .slice a2 l2 c2 :: U 3 :: U 4 :: U 5 :: U 6 :: .int .i64 n :: .pointer (some ⟨bO, 0, none⟩) :: .slice (some ⟨bM, 0, none⟩) n n :: .pointer (some ⟨bA, 0, none⟩) :: .slice (some ⟨bP, 0, none⟩) n n :: U 12 :: U 13 :: U 14 :: U 15 :: U 16 :: U 17 :: x18 :: U 19 :: x20 :: U 21 :: U 22 :: U 23 :: U 24 :: x25 :: x26 :: x27 :: x28 :: U 29 :: U 30 :: U 31 :: U 32 :: U 33 :: U 34 :: U 35 :: U 36 :: U 37 :: U 38 :: U 39 :: U 40 :: U 41 :: U 42 :: U 43 :: U 44 :: U 45 :: U 46 :: U 47 :: U 48 :: U 49 :: U 50 :: U 51 :: U 52 :: U 53 :: U 54 :: U 55 :: U 56 :: U 57 :: U 58 :: U 59 :: U 60 :: U 61 :: U 62 :: U 63 :: U 64 :: U 65 :: U 66 :: U 67 :: U 68 :: U 69 :: U 70 :: U 71 :: U 72 :: U 73 :: U 74 :: U 75 :: U 76 :: U 77 :: U 78 :: U 79 :: U 80 :: U 81 :: U 82 :: U 83 :: U 84 :: U 85 :: U 86 :: U 87 :: U 88 :: U 89 :: U 90 :: U 91 :: U 92 :: U 93 :: U 94 :: U 95 :: U 96 :: U 97 :: U 98 :: U 99 :: U 100 :: U 101 :: U 102 :: U 103 :: U 104 :: U 105 :: U 106 :: U 107 :: U 108 :: U 109 :: U 110 :: U 111 :: U 112 :: U 113 :: U 114 :: U 115 :: U 116 :: U 117 :: U 118 :: U 119 :: U 120 :: U 121 :: U 122 :: U 123 :: U 124 :: U 125 :: U 126 :: U 127 :: U 128 :: U 129 :: U 130 :: U 131 :: U 132 :: U 133 :: U 134 :: U 135 :: U 136 :: U 137 :: U 138 :: U 139 :: U 140 :: U 141 :: U 142 :: U 143 :: U 144 :: U 145 :: U 146 :: U 147 :: U 148 :: U 149 :: U 150 :: U 151 :: U 152 :: U 153 :: U 154 :: U 155 :: U 156 :: U 157 :: U 158 :: U 159 :: U 160 :: U 161 :: U 162 :: U 163 :: U 164 :: U 165 :: U 166 :: U 167 :: U 168 :: U 169 :: U 170 :: U 171 :: U 172 :: U 173 :: U 174 :: U 175 :: U 176 :: U 177 :: U 178 :: U 179 :: U 180 :: U 181 :: U 182 :: U 183 :: U 184 :: U 185 :: U 186 :: U 187 :: U 188 :: U 189 :: U 190 :: U 191 :: U 192 :: U 193 :: U 194 :: U 195 :: U 196 :: U 197 :: U 198 :: U 199 :: U 200 :: U 201 :: U 202 :: U 203 :: U 204 :: U 205 :: U 206 :: U 207 :: U 208 :: U 209 :: U 210 :: U 211 :: U 212 :: U 213 :: U 214 :: U 215 :: U 216 :: U 217 :: U 218 :: U 219 :: U 220 :: U 221 :: U 222 :: U 223 :: U 224 :: U 225 :: U 226 :: U 227 :: U 228 :: U 229 :: U 230 :: U 231 :: U 232 :: U 233 :: U 234 :: U 235 :: U 236 :: U 237 :: U 238 :: U 239 :: U 240 :: U 241 :: U 242 :: U 243 :: U 244 :: U 245 :: U 246 :: U 247 :: U 248 :: U 249 :: U 250 :: U 251 :: U 252 :: U 253 :: U 254 :: U 255 :: U 256 :: U 257 :: U 258 :: U 259 :: U 260 :: U 261 :: U 262 :: U 263 :: U 264 :: U 265 :: U 266 :: U 267 :: U 268 :: U 269 :: U 270 :: U 271 :: U 272 :: U 273 :: U 274 :: U 275 :: U 276 :: U 277 :: U 278 :: U 279 :: U 280 :: U 281 :: U 282 :: U 283 :: U 284 :: U 285 :: U 286 :: U 287 :: U 288 :: U 289 :: U 290 :: U 291 :: U 292 :: U 293 :: []), []⟩
end Go.Proofs.Ybulkdiks
