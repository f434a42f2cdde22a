/- Types and fields, as they came in: what a heap holds, read off its cells. (YtconkcjcjdmidaaGreatDoor) -/
import Derived.Test.YtconkcjcjdmidaaGreatDoorL2
import Derived.Test.YtconkcjcjdmidaaGreatDoorChecked
set_option linter.unusedVariables false
set_option linter.unusedSimpArgs false
namespace Go.Proofs.YtconkcjcjdmidaaGreatDoor
open Go.RowKit Go.ChangeShapes Go.WideShapes Go.ChangeAt Go
theorem below_tr {a b c : World} {B : Nat} (h : Below B a b) (k : Below b.heap.size b c) (hB : B ≤ b.heap.size) : Below B a c := h.trans (k.mono hB)
theorem bdrew {a b : World} {B : Nat} (h : Below B a b) : Below B a b.drew := ⟨h.os, h.tape, h.output, h.size, h.block⟩
theorem bdrewN {a b : World} {B : Nat} (h : Below B a b) (n : Nat) : Below B a (b.drewN n) := ⟨h.os, h.tape, h.output, h.size, h.block⟩
/-- a type's ten cells. -/
structure Ty where
  kd : Int
  wd : Int
  sg : Bool
  un : Int
  pr : Int
  sc : Int
  zn : ByteArray
  fl : Bool
  ai : Option Addr
  ni : Nat
  ci : Nat
  af : Option Addr
  nf : Nat
  cf : Nat
/-- a field's thirteen cells. -/
structure Fd where
  nm : ByteArray
  nl : Bool
  ty : Ty
  am : Option Addr
  nm' : Nat
  cm : Nat
def Ty.cells (t : Ty) : List Value := [.int .i64 t.kd, .int .i64 t.wd, .bool t.sg, .int .i64 t.un, .int .i64 t.pr, .int .i64 t.sc, .string t.zn, .bool t.fl, .slice t.ai t.ni t.ci, .slice t.af t.nf t.cf]
abbrev Ty.val (t : Ty) : Value := .agg #[.int .i64 t.kd, .int .i64 t.wd, .bool t.sg, .int .i64 t.un, .int .i64 t.pr, .int .i64 t.sc, .string t.zn, .bool t.fl, .slice t.ai t.ni t.ci, .slice t.af t.nf t.cf]
def vI : Option Value → Int | some (.int _ x) => x | _ => 0
def vB : Option Value → Bool | some (.bool b) => b | _ => false
def vS : Option Value → ByteArray | some (.string s) => s | _ => ⟨#[]⟩
def vA : Option Value → Option Addr | some (.slice a _ _) => a | _ => none
def vN : Option Value → Nat | some (.slice _ n _) => n | _ => 0
def vC : Option Value → Nat | some (.slice _ _ c) => c | _ => 0
/-- the type whose cells stand at place o of block b. -/
def readT (w : World) (b o : Nat) : Ty :=
  { kd := vI (w.cell? ⟨b, o, none⟩), wd := vI (w.cell? ⟨b, o + 1, none⟩), sg := vB (w.cell? ⟨b, o + 2, none⟩), un := vI (w.cell? ⟨b, o + 3, none⟩), pr := vI (w.cell? ⟨b, o + 4, none⟩), sc := vI (w.cell? ⟨b, o + 5, none⟩), zn := vS (w.cell? ⟨b, o + 6, none⟩), fl := vB (w.cell? ⟨b, o + 7, none⟩),
    ai := vA (w.cell? ⟨b, o + 8, none⟩), ni := vN (w.cell? ⟨b, o + 8, none⟩), ci := vC (w.cell? ⟨b, o + 8, none⟩), af := vA (w.cell? ⟨b, o + 9, none⟩), nf := vN (w.cell? ⟨b, o + 9, none⟩), cf := vC (w.cell? ⟨b, o + 9, none⟩) }
def readF (w : World) (b o : Nat) : Fd :=
  { nm := vS (w.cell? ⟨b, o, none⟩), nl := vB (w.cell? ⟨b, o + 1, none⟩), ty := readT w b (o + 2), am := vA (w.cell? ⟨b, o + 12, none⟩), nm' := vN (w.cell? ⟨b, o + 12, none⟩), cm := vC (w.cell? ⟨b, o + 12, none⟩) }
def blkOf : Option Addr → Nat | some a => a.block | none => 0
def offOf : Option Addr → Nat | some a => a.off | none => 0
/-- field k of those that lie in a slice at a. -/
def fAt (w : World) (a : Option Addr) (k : Nat) : Fd := readF w (blkOf a) (offOf a + k * 13)
/-- the cells at place o of block b are those of a field. -/
def FCells (w : World) (b o : Nat) (f : Fd) : Prop :=
  w.cell? ⟨b, o, none⟩ = some (.string f.nm) ∧ w.cell? ⟨b, o + 1, none⟩ = some (.bool f.nl) ∧
  w.cell? ⟨b, o + 2, none⟩ = some (.int .i64 f.ty.kd) ∧ w.cell? ⟨b, o + 3, none⟩ = some (.int .i64 f.ty.wd) ∧ w.cell? ⟨b, o + 4, none⟩ = some (.bool f.ty.sg) ∧ w.cell? ⟨b, o + 5, none⟩ = some (.int .i64 f.ty.un) ∧
  w.cell? ⟨b, o + 6, none⟩ = some (.int .i64 f.ty.pr) ∧ w.cell? ⟨b, o + 7, none⟩ = some (.int .i64 f.ty.sc) ∧ w.cell? ⟨b, o + 8, none⟩ = some (.string f.ty.zn) ∧ w.cell? ⟨b, o + 9, none⟩ = some (.bool f.ty.fl) ∧
  w.cell? ⟨b, o + 10, none⟩ = some (.slice f.ty.ai f.ty.ni f.ty.ci) ∧ w.cell? ⟨b, o + 11, none⟩ = some (.slice f.ty.af f.ty.nf f.ty.cf) ∧ w.cell? ⟨b, o + 12, none⟩ = some (.slice f.am f.nm' f.cm)
theorem FCells.below {w W : World} {b o : Nat} {f : Fd} (h : FCells w b o f) (hb : Below w.heap.size w W) (hlt : b < w.heap.size) : FCells W b o f := by
  obtain ⟨h0, h1, h2, h3, h4, h5, h6, h7, h8, h9, h10, h11, h12⟩ := h
  exact ⟨(hb.cell hlt).trans h0, (hb.cell hlt).trans h1, (hb.cell hlt).trans h2, (hb.cell hlt).trans h3, (hb.cell hlt).trans h4, (hb.cell hlt).trans h5, (hb.cell hlt).trans h6, (hb.cell hlt).trans h7, (hb.cell hlt).trans h8, (hb.cell hlt).trans h9, (hb.cell hlt).trans h10, (hb.cell hlt).trans h11, (hb.cell hlt).trans h12⟩
/-- a list of fields lies in the world: its cells alone. -/
def Fs (w : World) (a : Option Addr) (n c : Nat) : Prop :=
  n ≤ c ∧ n ≤ maxLen ∧ (0 < n → ∃ b o, a = some ⟨b, o, none⟩ ∧ b < w.heap.size ∧ ∀ k, k < n → FCells w b (o + k * 13) (fAt w a k) ∧ (fAt w a k).nm.size ≤ maxLen)
/-- the numbers of a union lie in the world. -/
def Is (w : World) (a : Option Addr) (n c : Nat) : Prop :=
  n ≤ c ∧ n ≤ maxLen ∧ (0 < n → ∃ b o, a = some ⟨b, o, none⟩ ∧ b < w.heap.size ∧ ∀ k, k < n → ∃ x : Int, w.cell? ⟨b, o + k, none⟩ = some (.int .i64 x) ∧ -9223372036854775808 ≤ x ∧ x < 9223372036854775808)
def iAt (w : World) (a : Option Addr) (k : Nat) : Int := vI (w.cell? ⟨blkOf a, offOf a + k, none⟩)
/-- a list of pairs lies in the world. -/
def Prs (w : World) (a : Option Addr) (n c : Nat) : Prop :=
  n ≤ c ∧ n ≤ maxLen ∧ (0 < n → ∃ b o, a = some ⟨b, o, none⟩ ∧ b < w.heap.size ∧ ∀ k, k < n → ∃ s t : ByteArray, w.cell? ⟨b, o + k * 2, none⟩ = some (.string s) ∧ w.cell? ⟨b, o + k * 2 + 1, none⟩ = some (.string t) ∧ s.size ≤ maxLen ∧ t.size ≤ maxLen)
def i64in (x : Int) : Prop := -9223372036854775808 ≤ x ∧ x < 9223372036854775808
/-- a type can be read to depth n. -/
def TyAt (w : World) : Nat → Ty → Prop
  | 0, _ => True
  | n + 1, t => i64in t.kd ∧ i64in t.wd ∧ i64in t.un ∧ i64in t.pr ∧ i64in t.sc ∧ t.zn.size ≤ maxLen ∧ Is w t.ai t.ni t.ci ∧ Fs w t.af t.nf t.cf ∧ ∀ k, k < t.nf → TyAt w n (fAt w t.af k).ty ∧ Prs w (fAt w t.af k).am (fAt w t.af k).nm' (fAt w t.af k).cm
theorem TyAt.pred {w : World} : ∀ {n : Nat} {t : Ty}, TyAt w (n + 1) t → TyAt w n t
  | 0, _, _ => trivial
  | n + 1, t, h => by
    obtain ⟨h1, h2, h3, h4, h5, h6, h7, h8, h9⟩ := h
    exact ⟨h1, h2, h3, h4, h5, h6, h7, h8, fun k hk => ⟨(h9 k hk).1.pred, (h9 k hk).2⟩⟩
/-- a type in its box. -/
def TB (w : World) (g : Nat) (t : Ty) : Prop := Blk w g 30 #[.int .i64 t.kd, .int .i64 t.wd, .bool t.sg, .int .i64 t.un, .int .i64 t.pr, .int .i64 t.sc, .string t.zn, .bool t.fl, .slice t.ai t.ni t.ci, .slice t.af t.nf t.cf]
theorem TB.below {w W : World} {g : Nat} {t : Ty} (h : TB w g t) (hb : Below w.heap.size w W) : TB W g t := Blk.below h hb
theorem TB.alloc {w : World} {g : Nat} {t : Ty} (h : TB w g t) (o : Obj) : TB (w.alloc o) g t := Blk.alloc h o
theorem TB.cells {w : World} {g : Nat} {t : Ty} (h : TB w g t) : w.cell? ⟨g, 0, none⟩ = some (.int .i64 t.kd) ∧ w.cell? ⟨g, 1, none⟩ = some (.int .i64 t.wd) ∧ w.cell? ⟨g, 2, none⟩ = some (.bool t.sg) ∧ w.cell? ⟨g, 3, none⟩ = some (.int .i64 t.un) ∧
    w.cell? ⟨g, 4, none⟩ = some (.int .i64 t.pr) ∧ w.cell? ⟨g, 5, none⟩ = some (.int .i64 t.sc) ∧ w.cell? ⟨g, 6, none⟩ = some (.string t.zn) ∧ w.cell? ⟨g, 7, none⟩ = some (.bool t.fl) ∧ w.cell? ⟨g, 8, none⟩ = some (.slice t.ai t.ni t.ci) ∧ w.cell? ⟨g, 9, none⟩ = some (.slice t.af t.nf t.cf) :=
  ⟨by have := Blk.cell h 0; simpa using this, by have := Blk.cell h 1; simpa using this, by have := Blk.cell h 2; simpa using this, by have := Blk.cell h 3; simpa using this, by have := Blk.cell h 4; simpa using this, by have := Blk.cell h 5; simpa using this, by have := Blk.cell h 6; simpa using this, by have := Blk.cell h 7; simpa using this, by have := Blk.cell h 8; simpa using this, by have := Blk.cell h 9; simpa using this⟩
theorem TB.new (w : World) (t : Ty) : TB (w.alloc (.cells #[.int .i64 t.kd, .int .i64 t.wd, .bool t.sg, .int .i64 t.un, .int .i64 t.pr, .int .i64 t.sc, .string t.zn, .bool t.fl, .slice t.ai t.ni t.ci, .slice t.af t.nf t.cf] 30)) w.heap.size t := Blk.new _ _ rfl
/-- field k of a list, in a later world. -/
theorem Fs.at_ {w W : World} {a : Option Addr} {n c : Nat} (h : Fs w a n c) (hb : Below w.heap.size w W) {k : Nat} (hk : k < n) : ∃ b o, a = some ⟨b, o, none⟩ ∧ FCells W b (o + k * 13) (fAt w a k) ∧ (fAt w a k).nm.size ≤ maxLen := by
  obtain ⟨_, _, h3⟩ := h
  obtain ⟨b, o, e, hlt, hc⟩ := h3 (by omega)
  exact ⟨b, o, e, (hc k hk).1.below hb hlt, (hc k hk).2⟩
/-- a function that says yes or no. -/
def PBl (w : World) (b : Bool) (e : Ending) (w' : World) : Prop := e = .returned (.bool b) ∧ Below w.heap.size w w'
def PSome (w : World) (e : Ending) (w' : World) : Prop := ∃ b : Bool, e = .returned (.bool b) ∧ Below w.heap.size w w'
theorem psome_mk {w w' : World} (b : Bool) (h : Below w.heap.size w w') : PSome w (.returned (.bool b)) w' := ⟨b, rfl, h⟩
end Go.Proofs.YtconkcjcjdmidaaGreatDoor
