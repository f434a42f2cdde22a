/- Words for memory that all proofs of this seat share: a block known whole, what a call may have changed, bytes. -/
import Derived.WalkKit
import Derived.ProofKit
import Derived.OpenShut
import Derived.WalkLawsBesides
import Derived.Handy
import Derived.BigQuiet
import Derived.Deep.QuietTactic
import Derived.Deep.RegionWith
import Derived.Deep.DeepCutAuto
import Derived.Deep.CutBlock
import Derived.Deep.Draws
import Derived.Deep.OwnRows
import Derived.Laws.OwnMore
import Derived.Laws.MakeOwn
import Derived.Laws.BytesString
import Derived.Lib.Hide
import Derived.ChangeSame
set_option linter.unusedVariables false
set_option linter.unusedSimpArgs false
namespace Go.Proofs.YtconkcjcjdmidaaGreatDoor
open Go.RowKit Go.ChangeShapes Go.WideShapes Go.ChangeAt

/-! ### blocks -/
def Blk (w : World) (g : Nat) (t : TypeId) (cs : Array Value) : Prop := w.heap[g]? = some (.cells cs t (0, 0))

theorem heap_alloc (w : World) (o : Obj) (i : Nat) : (w.alloc o).heap[i]? = if i = w.heap.size then some o else w.heap[i]? := by
  show (w.heap.push o)[i]? = _
  rw [Array.getElem?_push]
theorem heap_drew (w : World) : w.drew.heap = w.heap := rfl
theorem heap_set_other (w : World) (a : Addr) (v : Value) (i : Nat) (h : i ≠ a.block) : (w.setCell a v).heap[i]? = w.heap[i]? := Below.heap_setCell w a v i h

theorem Blk.lt {w : World} {g : Nat} {t : TypeId} {cs : Array Value} (h : Blk w g t cs) : g < w.heap.size := by
  rcases Nat.lt_or_ge g w.heap.size with hlt | hge
  · exact hlt
  · unfold Blk at h; rw [Array.getElem?_eq_none hge] at h; cases h
theorem Blk.cell {w : World} {g : Nat} {t : TypeId} {cs : Array Value} (h : Blk w g t cs) (i : Nat) : w.cell? ⟨g, i, none⟩ = cs[i]? := by
  unfold Blk at h; simp [World.cell?, h]
theorem Blk.frozen {w : World} {g : Nat} {t : TypeId} {cs : Array Value} (h : Blk w g t cs) (i : Nat) : w.frozen? ⟨g, i, none⟩ = false := by
  unfold Blk at h; simp [World.frozen?, h]
theorem Blk.new {w : World} {g : Nat} (t : TypeId) (cs : Array Value) (h : g = w.heap.size) : Blk (w.alloc (.cells cs t)) g t cs := by
  subst h; unfold Blk; rw [heap_alloc, if_pos rfl]
theorem Blk.alloc {w : World} {g : Nat} {t : TypeId} {cs : Array Value} (h : Blk w g t cs) (o : Obj) : Blk (w.alloc o) g t cs := by
  have := h.lt
  unfold Blk; rw [heap_alloc, if_neg (by omega)]; exact h
theorem Blk.drew {w : World} {g : Nat} {t : TypeId} {cs : Array Value} (h : Blk w g t cs) : Blk w.drew g t cs := h
theorem Blk.drewN {w : World} {g : Nat} {t : TypeId} {cs : Array Value} (h : Blk w g t cs) (n : Nat) : Blk (w.drewN n) g t cs := h
theorem Blk.other {w : World} {g : Nat} {t : TypeId} {cs : Array Value} (h : Blk w g t cs) {a : Addr} (hne : g ≠ a.block) (v : Value) : Blk (w.setCell a v) g t cs := by
  unfold Blk; rw [heap_set_other _ _ _ _ hne]; exact h
theorem Blk.set {w : World} {g : Nat} {t : TypeId} {cs : Array Value} (h : Blk w g t cs) (i : Nat) (v : Value) : Blk (w.setCell ⟨g, i, none⟩ v) g t (cs.setIfInBounds i v) := by
  unfold Blk at *
  simp [World.setCell, Array.getElem?_modify, h]
theorem Blk.same {w w' : World} {g : Nat} {t : TypeId} {cs : Array Value} (h : Blk w g t cs) (e : w'.heap[g]? = w.heap[g]?) : Blk w' g t cs := e.trans h
theorem Blk.cast {w : World} {g : Nat} {t : TypeId} {cs cs' : Array Value} (h : Blk w g t cs) (e : cs = cs') : Blk w g t cs' := e ▸ h
theorem Blk.below {w w' : World} {g : Nat} {t : TypeId} {cs : Array Value} (h : Blk w g t cs) (hb : Below w.heap.size w w') : Blk w' g t cs := h.same (hb.block g h.lt)
theorem Blk.below' {w w' : World} {g : Nat} {t : TypeId} {cs : Array Value} {B : Nat} (h : Blk w g t cs) (hb : Below B w w') (hB : g < B) : Blk w' g t cs := h.same (hb.block g hB)
theorem Blk.uniq {w : World} {g : Nat} {t t' : TypeId} {cs cs' : Array Value} (h : Blk w g t cs) (h' : Blk w g t' cs') : t = t' ∧ cs = cs' := by
  unfold Blk at *; rw [h] at h'; simp only [Option.some.injEq, Obj.cells.injEq] at h'; exact ⟨h'.2.1, h'.1⟩
theorem Blk.ne {w : World} {g g' : Nat} {t t' : TypeId} {cs cs' : Array Value} (h : Blk w g t cs) (h' : Blk w g' t' cs') (hne : t ≠ t') : g ≠ g' := by
  rintro rfl; exact hne (h.uniq h').1

/-! ### what a call may have changed: the blocks of S, and new ones -/
structure Mod (S : List Nat) (w w' : World) : Prop where
  os : w'.os = w.os
  tape : w'.tape = w.tape
  output : w'.output = w.output
  size : w.heap.size ≤ w'.heap.size
  block : ∀ k, k < w.heap.size → k ∉ S → w'.heap[k]? = w.heap[k]?
theorem Mod.refl (S : List Nat) (w : World) : Mod S w w := ⟨rfl, rfl, rfl, Nat.le_refl _, fun _ _ _ => rfl⟩
theorem Mod.trans {S T : List Nat} {a b c : World} (h : Mod S a b) (k : Mod T b c) (hT : ∀ x ∈ T, x ∈ S ∨ a.heap.size ≤ x) : Mod S a c :=
  ⟨k.os.trans h.os, k.tape.trans h.tape, k.output.trans h.output, Nat.le_trans h.size k.size, fun i hi hn =>
    (k.block i (Nat.lt_of_lt_of_le hi h.size) (fun hx => by rcases hT i hx with h1 | h1; exact hn h1; omega)).trans (h.block i hi hn)⟩
theorem Mod.mono {S T : List Nat} {a b : World} (h : Mod S a b) (hT : ∀ x ∈ S, x ∈ T ∨ a.heap.size ≤ x) : Mod T a b :=
  ⟨h.os, h.tape, h.output, h.size, fun i hi hn => h.block i hi (fun hx => by rcases hT i hx with h1 | h1; exact hn h1; omega)⟩
theorem Mod.drew {S : List Nat} {a w : World} (h : Mod S a w) : Mod S a w.drew := ⟨h.os, h.tape, h.output, h.size, h.block⟩
theorem Mod.drewN {S : List Nat} {a w : World} (h : Mod S a w) (n : Nat) : Mod S a (w.drewN n) := ⟨h.os, h.tape, h.output, h.size, h.block⟩
theorem Mod.alloc {S : List Nat} {a w : World} (h : Mod S a w) (o : Obj) : Mod S a (w.alloc o) :=
  ⟨h.os, h.tape, h.output, by rw [World.size_alloc]; have := h.size; omega, fun i hi hn => by
    have := h.size
    rw [heap_alloc, if_neg (by omega)]; exact h.block i hi hn⟩
theorem Mod.setCell {S : List Nat} {a w : World} (h : Mod S a w) {p : Addr} (hp : p.block ∈ S ∨ a.heap.size ≤ p.block) (v : Value) : Mod S a (w.setCell p v) :=
  ⟨h.os, h.tape, h.output, by rw [World.size_setCell]; exact h.size, fun i hi hn => by
    rw [heap_set_other _ _ _ _ (by rintro rfl; rcases hp with h1 | h1; exact hn h1; omega)]; exact h.block i hi hn⟩
theorem Mod.below {w w' : World} (h : Mod [] w w') : Below w.heap.size w w' := ⟨h.os, h.tape, h.output, h.size, fun k hk => h.block k hk (by simp)⟩
theorem Mod.of_below {S : List Nat} {w w' : World} (h : Below w.heap.size w w') : Mod S w w' := ⟨h.os, h.tape, h.output, h.size, fun k hk _ => h.block k hk⟩
theorem Mod.of_grown {S : List Nat} {w w' : World} {row : Option Nat} (h : w.grownBy w' row) (hr : ∀ k, row = some k → k ∈ S) : Mod S w w' :=
  ⟨h.os, h.tape, h.output, h.size, fun k hk hn => h.block k hk (fun e => hn (hr k e.symm))⟩
theorem Mod.cell {S : List Nat} {w w' : World} (h : Mod S w w') {p : Addr} {v : Value} (hc : w.cell? p = some v) (hp : p.block ∉ S) : w'.cell? p = some v := by
  rw [World.cell?_of_block (h.block p.block (World.block_lt_of_cell? w p hc) hp)]; exact hc
theorem Mod.blk {S : List Nat} {w w' : World} {g : Nat} {t : TypeId} {cs : Array Value} (h : Mod S w w') (hb : Blk w g t cs) (hp : g ∉ S) : Blk w' g t cs := hb.same (h.block g hb.lt hp)
theorem Blk.mod {S : List Nat} {w w' : World} {g : Nat} {t : TypeId} {cs : Array Value} (hb : Blk w g t cs) (h : Mod S w w') (hp : g ∉ S) : Blk w' g t cs := hb.same (h.block g hb.lt hp)
theorem Mod.any {w w' : World} (h : Mod [] w w') (S : List Nat) : Mod S w w' := h.mono (by simp)

theorem cell_mod {S : List Nat} {w w' : World} (h : Mod S w w') (p : Addr) (hl : p.block < w.heap.size) (hp : p.block ∉ S) : w'.cell? p = w.cell? p :=
  World.cell?_of_block (h.block p.block hl hp)
theorem frozen_mod {S : List Nat} {w w' : World} (h : Mod S w w') (p : Addr) (hl : p.block < w.heap.size) (hp : p.block ∉ S) : w'.frozen? p = w.frozen? p :=
  World.frozen?_of_block (h.block p.block hl hp)

/-! ### the row's last step over 'Below' -/
section
variable {H : Type} {enc : TypeId × Value → H} {P : Program}
theorem post_of_below {f : Func} {s : ChangeSpec} {apart fresh handsOn again : Bool} {W W' : World} {args : Array Value} {v : Value} {ds gs : List (DataW H)} {before pa pv : List MemPlace}
    (hW : DataW.Whole enc P f.params.toList s.vars apart W args.toList ds gs before)
    (hres : ∀ (b : Nat) (sp : Nat → Bool) (hd : Bool), DataW.TrodAll enc P W' b sp hd f.resultTypes.toList (v.resultList f.resultTypes.size) (s.fn H (ds ++ gs)).results [])
    (hargs : ∀ sp : Nat → Bool, (∀ p ∈ before, sp p.block = true) → DataW.TrodAll enc P W' 0 sp true f.params.toList args.toList (s.fn H (ds ++ gs)).args pa)
    (hvars : ∀ sp : Nat → Bool, (∀ p ∈ before, sp p.block = true) → DataW.TrodVars enc P W' sp s.vars (s.fn H (ds ++ gs)).vars pv)
    (hps : before = pa ++ pv) (hb : Below W.heap.size W W')
    (hok : ∀ (j : Nat) (t : TypeId) (r : Value), f.resultTypes[j]? = some t → (v.resultList f.resultTypes.size)[j]? = some r → Value.okWide P W' .any 0 t r) :
    s.post enc P f apart fresh handsOn again W args v W' := by
  have hlt : ∀ p ∈ before, p.block < W.heap.size := fun p hp => hW.lt p hp
  have hold : ∀ p ∈ before, (fun b => decide (b < W.heap.size)) p.block = true := fun p hp => by simpa using hlt p hp
  refine ⟨ds, gs, before, [], pa, pv, hW, hres _ _ _, hargs _ hold, hvars _ hold, World.keptBut_mono (fun p hp => ⟨hp, ?_⟩) (hb.frame (· ∈ before)), fun _ => ?_⟩
  · rw [hps, List.mem_append] at hp
    exact Or.inr hp
  · obtain ⟨_, _, _, _, _, hz, hn⟩ := hW
    refine ⟨hok, _, _, ([] ++ pa) ++ pv, ⟨[] ++ pa, pv, trodAll_append (hargs _ (fun _ _ => rfl)) (hres _ _ _), hvars _ (fun _ _ => rfl), rfl, ?_, ?_⟩, ?_⟩
    · intro b off hp
      have hin : MemPlace.cell b off ∈ before := by rw [hps]; simpa using hp
      rw [hb.frozen (hlt _ hin)]
      exact hz b off hin
    · intro ha
      have := hn ha
      rw [hps] at this
      simpa using this
    · intro p hp _
      rw [hps]
      simpa using hp
end

theorem ret_bool {a b : Bool} (h : a = b) : Ending.returned (.bool a) = .returned (.bool b) := by rw [h]
theorem ret_int {k : IntKind} {a b : Int} (h : a = b) : Ending.returned (.int k a) = .returned (.int k b) := by rw [h]
theorem hide {p : Prop} (h : p) : Hid p := h
theorem unhide {p : Prop} (h : Hid p) : p := h
/-! ### bytes -/
def bv (l : List Nat) : List Value := l.map (fun (n : Nat) => Value.int .u8 (n : Int))
theorem bv_length (l : List Nat) : (bv l).length = l.length := by simp [bv]
theorem bv_get (l : List Nat) (i : Nat) (h : i < l.length) : (bv l).toArray[i]? = some (.int .u8 ((l.getD i 0 : Nat) : Int)) := by
  simp [bv, List.getElem?_eq_getElem h]
end Go.Proofs.YtconkcjcjdmidaaGreatDoor
