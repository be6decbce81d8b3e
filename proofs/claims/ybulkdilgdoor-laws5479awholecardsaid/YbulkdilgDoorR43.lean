import Derived.Test.YbulkdilgDoorRows
import Derived.ProofKit
import Derived.WalkKit
import Derived.WalkSpells
import Derived.WalkSmall
import Derived.OwnWalk
import Derived.Deep.RegionLaw
import Derived.Laws.CopyOwn
import Derived.Shelf.Spec.SlicesInsertGrow
namespace Go.Proofs.YbulkdilgDoor
open Go.RowKit
set_option maxRecDepth 100000
set_option linter.unusedVariables false
set_option linter.unusedSimpArgs false
set_option linter.unnecessarySimpa false

/-- A region found again in the function's text. -/
def findReg (n : Nat) : Code → Option Code
  | .region id b c => if id == n then some (.region id b c) else none
  | .loop c => findReg n c
  | .seq a b => match findReg n a with
    | some c => some c
    | none => findReg n b
  | .block _ c => findReg n c
  | .scope c => findReg n c
  | .cond _ a b => match findReg n a with
    | some c => some c
    | none => findReg n b
  | _ => none
/-- What is asked behind a region: of a panic nothing that hangs on the slots. -/
def QR (R : Ending → World → Prop) (X : Exit → Act → World → Prop) : Exit → Act → World → Prop
  | .panic ch, a, w => a.defers = [] ∧ R (.panicked ch) w
  | .normal, a, w => X .normal a w
  | .exit i, a, w => X (.exit i) a w
  | .goto l, a, w => X (.goto l) a w
  | .ret, a, w => X .ret a w
  | .outgrown, a, w => X .outgrown a w
theorem wp_QR {P : Program} {c : Code} {a : Act} {w : World} {R : Ending → World → Prop} {Q : Exit → Act → World → Prop} (hp : ∀ ch a w, (a.defers = [] ∧ R (.panicked ch) w) → Q (.panic ch) a w)
    (h : Code.wp P c (QR R Q) a w) : Code.wp P c Q a w :=
  wp_mono h fun e a w h => by cases e <;> first | exact hp _ _ _ h | exact h
def slr (a : Act) : Nat → Value := fun i => a.tmps.getD i undef
def hE (buy : Bool) (a1 : Option Addr) (n c1 nA sb eb pb qb lb rb cnt m kk i : Nat) (x72 : Value) (U : Nat → Value) : Act := ⟨List.toArray (.bool buy :: U 1 :: U 2 :: U 3 :: U 4 :: .int .i64 nA :: U 6 :: U 7 :: U 8 :: U 9 :: .pointer (some ⟨eb, 0, none⟩) :: .pointer (some ⟨sb, 0, none⟩) :: .slice (some ⟨pb, 0, none⟩) cnt nA :: .slice (some ⟨qb, 0, none⟩) cnt nA :: .slice (some ⟨lb, 0, none⟩) cnt nA :: .slice (some ⟨rb, 0, none⟩) m nA :: U 16 :: U 17 :: U 18 :: U 19 :: .int .i64 kk :: .int .i64 i :: U 22 :: U 23 :: U 24 :: U 25 :: U 26 :: U 27 :: U 28 :: U 29 :: U 30 :: U 31 :: U 32 :: U 33 :: U 34 :: U 35 :: U 36 :: U 37 :: U 38 :: U 39 :: U 40 :: U 41 :: U 42 :: U 43 :: U 44 :: U 45 :: U 46 :: U 47 :: U 48 :: U 49 :: U 50 :: U 51 :: U 52 :: U 53 :: U 54 :: U 55 :: U 56 :: U 57 :: U 58 :: U 59 :: U 60 :: U 61 :: U 62 :: U 63 :: U 64 :: U 65 :: U 66 :: U 67 :: U 68 :: U 69 :: .slice a1 n c1 :: .int .i64 n :: x72 :: U 73 :: U 74 :: U 75 :: U 76 :: U 77 :: U 78 :: U 79 :: U 80 :: U 81 :: U 82 :: U 83 :: U 84 :: U 85 :: U 86 :: U 87 :: U 88 :: U 89 :: U 90 :: U 91 :: U 92 :: U 93 :: U 94 :: U 95 :: U 96 :: U 97 :: U 98 :: U 99 :: U 100 :: U 101 :: U 102 :: U 103 :: U 104 :: U 105 :: U 106 :: U 107 :: U 108 :: U 109 :: U 110 :: U 111 :: U 112 :: U 113 :: U 114 :: U 115 :: U 116 :: U 117 :: U 118 :: U 119 :: U 120 :: U 121 :: U 122 :: U 123 :: U 124 :: U 125 :: U 126 :: U 127 :: U 128 :: U 129 :: U 130 :: U 131 :: U 132 :: U 133 :: U 134 :: U 135 :: U 136 :: U 137 :: U 138 :: U 139 :: U 140 :: U 141 :: U 142 :: U 143 :: U 144 :: U 145 :: U 146 :: U 147 :: U 148 :: U 149 :: U 150 :: U 151 :: U 152 :: U 153 :: U 154 :: U 155 :: U 156 :: U 157 :: U 158 :: U 159 :: U 160 :: U 161 :: U 162 :: U 163 :: U 164 :: U 165 :: U 166 :: U 167 :: U 168 :: U 169 :: U 170 :: U 171 :: U 172 :: U 173 :: U 174 :: U 175 :: U 176 :: U 177 :: []), []⟩

set_option maxHeartbeats 4000000 in
/-- copy(resting[k:], resting[k+1:]) -/
theorem reg43 (buy : Bool) (a1 : Option Addr) (n c1 nA sb eb pb qb lb rb cnt m kk i : Nat) (x72 : Value) (w W : World) (Ad : Addr) (cl : Nat) (hkm : kk < m) (hm : m ≤ nA) (hn : nA ≤ 1024)
    (hAd : (if nA = kk + 1 then some (⟨rb, 0, none⟩ : Addr) else some ⟨rb, kk + 1, none⟩) = some Ad)
    (hrW : ∀ ty dc sc, (Builtin.copy_ #[39, 39] ty #[.slice (some ⟨rb, kk, none⟩) (m - kk) dc, .slice (some Ad) (m - (kk + 1)) sc]).run Ybad.prog w.drew = .ok (goInt cl) W)
    (R : Ending → World → Prop) (Q : Exit → Act → World → Prop) (HQ : ∀ a, a = hE buy a1 n c1 nA sb eb pb qb lb rb cnt m kk i x72 (slr a) → Q .normal a W)
    (a : Act) (ha : a = hE buy a1 n c1 nA sb eb pb qb lb rb cnt m kk i x72 (slr a)) : Code.wp Ybad.prog ((Ybad.f3.body.bind (findReg 43)).getD .skip) (QR R Q) a w := by
  obtain ⟨U, rfl⟩ : ∃ U, a = hE buy a1 n c1 nA sb eb pb qb lb rb cnt m kk i x72 U := ⟨_, ha⟩
  clear ha
  unfold hE at *
  conv => arg 2; whnf
  have e1 : kk ≤ m := by omega
  have e2 : ¬ nA = kk := by omega
  have e3 : (kk : Int) + 1 ≤ (m : Int) := by omega
  have e4 : IntKind.i64.wrap ((kk : Int) + 1) = (kk : Int) + 1 := by rw [IntKind.wrap_i64]; omega
  have e5 : (0 : Int) ≤ (kk : Int) + 1 := by omega
  have e6 : ((kk : Int) + 1).toNat = kk + 1 := by omega
  have e9 : (kk : Int) ≤ (m : Int) := by omega
  have HQ' : Hid (∀ a, a = hE buy a1 n c1 nA sb eb pb qb lb rb cnt m kk i x72 (slr a) → Q .normal a W) := HQ
  clear HQ
  go_region_law (refine Go.Proofs.step_copy_runI rfl (.tmp 154) (.tmp 158) 39 39 rfl _ _ (by simp [Act.eval, Act.put]) (by simp [Act.eval, Act.put]) (hrW _ _ _) ?_)
  all_goals exact HQ'.out _ rfl
end Go.Proofs.YbulkdilgDoor
