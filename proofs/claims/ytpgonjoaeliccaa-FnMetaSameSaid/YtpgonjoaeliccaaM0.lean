/- The order of strings by their bytes; what slices.SortFunc leaves as it was. (Ytpgonjoaeliccaa) -/
import Derived.Test.YtpgonjoaeliccaaL
import Derived.Shelf.SlSortCmp.Whole1
import Derived.Lib.Bytealg
set_option linter.unusedVariables false
set_option linter.unusedSimpArgs false
namespace Go.Proofs.Ytpgonjoaeliccaa
open Go.RowKit Go.ChangeShapes Go.WideShapes Go.ChangeAt Go.Shelf Go.Lib Go.Sort
theorem cb_self : ∀ a : List UInt8, compareBytes a a = 0
  | [] => rfl
  | x :: a => by unfold compareBytes; rw [if_neg (UInt8.lt_irrefl x), if_neg (UInt8.lt_irrefl x)]; exact cb_self a
theorem cb_anti : ∀ a b : List UInt8, compareBytes b a = -compareBytes a b
  | [], [] => rfl
  | [], _ :: _ => rfl
  | _ :: _, [] => rfl
  | x :: a, y :: b => by
    have ih := cb_anti a b
    simp only [compareBytes]
    by_cases h1 : x < y
    · have h2 : ¬ y < x := fun h => UInt8.lt_irrefl x (UInt8.lt_trans h1 h)
      simp [h1, h2]
    · by_cases h2 : y < x
      · simp [h1, h2]
      · simp [h1, h2, ih]
theorem cb_tr : ∀ a b c : List UInt8, compareBytes a b ≤ 0 → compareBytes b c ≤ 0 → compareBytes a c ≤ 0 ∧ (compareBytes a b < 0 ∨ compareBytes b c < 0 → compareBytes a c < 0)
  | [], b, [] => by
    intro h1 h2
    refine ⟨by simp [compareBytes], fun h => ?_⟩
    cases b with
    | nil => simp [compareBytes] at h
    | cons y b => simp [compareBytes] at h2
  | [], b, z :: c => by intro h1 h2; simp [compareBytes]
  | x :: a, [], c => by intro h1 h2; simp [compareBytes] at h1
  | x :: a, y :: b, [] => by intro h1 h2; simp [compareBytes] at h2
  | x :: a, y :: b, z :: c => by
    intro h1 h2
    have ih := cb_tr a b c
    simp only [compareBytes] at h1 h2 ⊢
    by_cases xy : x < y
    · by_cases yz : y < z
      · have xz := UInt8.lt_trans xy yz
        simp [xz]
      · by_cases zy : z < y
        · simp [yz, zy] at h2
        · have e : y = z := UInt8.le_antisymm (UInt8.not_lt.1 zy) (UInt8.not_lt.1 yz)
          subst e
          simp [xy]
    · by_cases yx : y < x
      · simp [xy, yx] at h1
      · have e : x = y := UInt8.le_antisymm (UInt8.not_lt.1 yx) (UInt8.not_lt.1 xy)
        subst e
        by_cases yz : x < z
        · simp [yz]
        · by_cases zy : z < x
          · simp [yz, zy] at h2
          · simp only [xy, yz, zy, if_false] at h1 h2 ⊢
            exact ih h1 h2
theorem cb_swo {α : Type} (K : α → List UInt8) : SWO (ltOf fun x y => compareBytes (K x) (K y)) where
  irrefl x := by simp [ltOf, cb_self]
  trans x y z h1 h2 := by
    simp only [ltOf, decide_eq_true_eq] at *
    exact (cb_tr _ _ _ (by omega) (by omega)).2 (.inl h1)
  ntrans x y z h1 h2 := by
    simp only [ltOf, decide_eq_false_iff_not] at *
    have a1 := cb_anti (K x) (K y)
    have a2 := cb_anti (K y) (K z)
    have a3 := cb_anti (K x) (K z)
    have := (cb_tr (K z) (K y) (K x) (by omega) (by omega)).1
    omega
theorem mod_sort {α : Type} [Inhabited α] (enc : α → Value) (w : World) (g off n : Nat) (d : Array α) (os : Array Obj) : Mod [g] w (sortWorld enc w g off n d os) := by
  refine ⟨rfl, rfl, rfl, ?_, fun k hk hn => ?_⟩
  · show w.heap.size ≤ ((w.heap.modify g _) ++ os).size
    simp
  · simp only [List.mem_singleton] at hn
    show ((w.heap.modify g _) ++ os)[k]? = _
    rw [Array.getElem?_append_left (by simpa using hk), Array.getElem?_modify, if_neg (Ne.symm hn)]
theorem blk_sort {α : Type} [Inhabited α] (enc : α → Value) (w : World) (g n : Nat) (d : Array α) (os : Array Obj) (t : TypeId) (cs : Array Value) (h : Blk w g t cs) (hs : cs.size = d.size) : Blk (sortWorld enc w g 0 n d os) g t (d.map enc) := by
  have hl := h.lt
  have e : putCells enc 0 d cs = d.map enc := by
    unfold putCells
    apply Array.ext
    · simp [hs]
    · intro k h1 h2
      have hk : k < d.size := by simpa using h2
      simp [hk]
  unfold Blk at *
  show ((w.heap.modify g (onCells (putCells enc 0 d))) ++ os)[g]? = _
  rw [Array.getElem?_append_left (by simpa using hl), Array.getElem?_modify, if_pos rfl, h]
  simp [onCells, e]
theorem blk_sortO {α : Type} [Inhabited α] (enc : α → Value) (w : World) (g n : Nat) (d : Array α) (os : Array Obj) (t : TypeId) (cs : Array Value) (g' : Nat) (h : Blk w g' t cs) (hne : g' ≠ g) : Blk (sortWorld enc w g 0 n d os) g' t cs :=
  h.same ((mod_sort enc w g 0 n d os).block g' h.lt (by simpa using hne))
/-- The places of a sorted row are those of the row: each place comes up. -/
theorem perm_mem {α : Type} [Inhabited α] {d d' : Array α} (h : PermIn 0 d.size d d') (x : α) (hx : x ∈ d.toList) : x ∈ d'.toList := by
  obtain ⟨h1, _, h3⟩ := h
  have := h3.mem_iff (a := x)
  rw [Array.extract_size] at this
  have e : d'.extract 0 d.size = d' := by rw [← h1]; exact Array.extract_size
  rw [e] at this
  exact this.2 hx
end Go.Proofs.Ytpgonjoaeliccaa
