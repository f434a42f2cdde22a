/- The places of keys in their order. (Ytpgonjoaeliccaa) -/
import Derived.Test.YtpgonjoaeliccaaM4
set_option linter.unusedVariables false
set_option linter.unusedSimpArgs false
namespace Go.Proofs.Ytpgonjoaeliccaa
open Go.RowKit Go.ChangeShapes Go.WideShapes Go.ChangeAt
open Go.Sort (pdq SWO PermIn)
attribute [local go_sem ↓] Go.wp_at_zero Go.wp_at_succ
def cfK (K : List (List UInt8)) (x y : Fin K.length) : Int := Lib.compareBytes (K.getD x.val []) (K.getD y.val [])
def pdK (K : List (List UInt8)) (h : 0 < K.length) : Array (Fin K.length) :=
  @pdq (Fin K.length) ⟨⟨0, h⟩⟩ (ltOf (cfK K)) (Array.ofFn id) 0 (Array.ofFn (n := K.length) id).size (Lib.bitLen (Array.ofFn (n := K.length) id).size) true true
def sIdx (K : List (List UInt8)) : List Nat := if h : 0 < K.length then (pdK K h).toList.map Fin.val else []
theorem pdK_perm (K : List (List UInt8)) (h : 0 < K.length) : @PermIn _ ⟨⟨0, h⟩⟩ 0 (Array.ofFn (n := K.length) id).size (Array.ofFn id) (pdK K h) := by
  letI : Inhabited (Fin K.length) := ⟨⟨0, h⟩⟩
  exact (Go.Sort.pdq_sorts (ltOf (cfK K)) (cb_swo fun x : Fin K.length => K.getD x.val []) (Array.ofFn id) 0 (Array.ofFn (n := K.length) id).size (Lib.bitLen (Array.ofFn (n := K.length) id).size) true true (Nat.zero_le _) (Nat.le_refl _) (Or.inl rfl)).1
theorem sIdx_len (K : List (List UInt8)) : (sIdx K).length = K.length := by
  unfold sIdx
  split
  · next h =>
    have := (pdK_perm K h).1
    simp at this
    simp [this]
  · next h => simp; omega
theorem sIdx_lt (K : List (List UInt8)) : ∀ i ∈ sIdx K, i < K.length := by
  intro i hi
  unfold sIdx at hi
  split at hi
  · obtain ⟨x, _, rfl⟩ := List.mem_map.1 hi
    exact x.isLt
  · simp at hi
theorem sIdx_mem (K : List (List UInt8)) (i : Nat) (hi : i < K.length) : i ∈ sIdx K := by
  have h : 0 < K.length := by omega
  unfold sIdx
  rw [dif_pos h]
  letI : Inhabited (Fin K.length) := ⟨⟨0, h⟩⟩
  exact List.mem_map.2 ⟨⟨i, hi⟩, perm_mem (pdK_perm K h) _ (by simp [List.mem_ofFn]), rfl⟩
def fill (k n : Nat) : Array Value := ((List.range n).map fun j => Value.int .i64 ((if j < k then j else 0 : Nat) : Int)).toArray
theorem fill_size (k n : Nat) : (fill k n).size = n := by simp [fill]
theorem fill_set (k n : Nat) (h : k < n) : (fill k n).setIfInBounds k (.int .i64 (k : Int)) = fill (k + 1) n := by
  apply Array.ext
  · simp [fill_size]
  · intro i h1 h2
    rw [fill_size] at h2
    rw [Array.getElem_setIfInBounds (by rw [fill_size]; exact h2)]
    simp only [fill, List.getElem_toArray, List.getElem_map, List.getElem_range]
    by_cases e : k = i
    · subst e; simp
    · rw [if_neg e]
      congr 2
      by_cases h3 : i < k
      · rw [if_pos h3, if_pos (by omega)]
      · rw [if_neg h3, if_neg (by omega)]
theorem made_ints (n : Nat) : madeCells (Value.int .i64 0).cells (n * 1) = fill 0 n := by
  unfold madeCells
  apply Array.ext
  · simp [fill_size]
  · intro i h1 h2
    simp [Value.cells, Nat.mod_one, fill]
theorem make38 (n : Nat) (hn : n ≤ 100) (w : World) : (Instr.makeSlice 38 (.int .i64 (n : Int)) (.int .i64 (n : Int))).run Try.prog w = .ok (.slice (some ⟨w.heap.size, 0, none⟩) n n) (w.alloc (.cells (fill 0 n) 3)) := by
  obtain ⟨i0, hi, hz0, hz1, hz2⟩ := info_parts (show (Try.prog.info? 3).map (fun i => (i.zero, i.size, i.bytes)) = some (some (.int .i64 0), 1, 8) by kernel_rfl)
  have := run_make_rowN (P := Try.prog) 38 3 i0 _ Try.underlying38 hi hz0 .i64 .i64 n n (Nat.le_refl _) (by rw [hz2]; omega) (by omega) w
  rw [this, hz1, made_ints]
end Go.Proofs.Ytpgonjoaeliccaa
