/- Bits written one by one: plain facts. (YtcjjajbpjfamfaaDoor) -/
import Derived.Test.YtcjjajbpjfamfaaDoorL3
set_option linter.unusedVariables false
set_option linter.unusedSimpArgs false
namespace Go.Proofs.YtcjjajbpjfamfaaDoor
open Go.RowKit
/-- memory and the current byte after k bits from a place on -/
def gmem (d : List Nat) (f : Nat) (l : List Bool) (k : Nat) : List Nat := (chgN d f l k).take ((f + k) / 8) ++ d.drop ((f + k) / 8)
theorem gmem_length (d : List Nat) (f : Nat) (l : List Bool) (k : Nat) (h : (f + k) / 8 ≤ d.length) : (gmem d f l k).length = d.length := by
  unfold gmem
  rw [List.length_append, List.length_take, List.length_drop, chgN_length]; omega
theorem gmem_small {d : List Nat} (h : Small d) (f : Nat) (l : List Bool) (k : Nat) : Small (gmem d f l k) := by
  intro x hx
  unfold gmem at hx
  rcases List.mem_append.1 hx with h1 | h1
  · exact chgN_small h f l k x (List.mem_of_mem_take h1)
  · exact h x (List.mem_of_mem_drop h1)
theorem getD_take_drop (a b : List Nat) (m i : Nat) (hm : m ≤ a.length) : (a.take m ++ b.drop m).getD i 0 = if i < m then a.getD i 0 else b.getD i 0 := by
  simp only [List.getD_eq_getElem?_getD]
  by_cases h : i < m
  · rw [if_pos h, List.getElem?_append_left (by rw [List.length_take]; omega), List.getElem?_take_of_lt h]
  · rw [if_neg h, List.getElem?_append_right (by rw [List.length_take]; omega), List.getElem?_drop, List.length_take]
    congr 2; omega
theorem bitAt_gmem (d : List Nat) (f : Nat) (l : List Bool) (k i : Nat) (hk : (f + k) / 8 ≤ d.length) : bitAt (gmem d f l k) i = if i / 8 < (f + k) / 8 then bitAt (chgN d f l k) i else bitAt d i := by
  unfold bitAt gmem
  rw [getD_take_drop _ _ _ _ (by rw [chgN_length]; exact hk)]
  split <;> rfl
theorem gmem_get (d : List Nat) (f : Nat) (l : List Bool) (k : Nat) (hk : (f + k) / 8 ≤ d.length) : (gmem d f l k).getD ((f + k) / 8) 0 = d.getD ((f + k) / 8) 0 := by
  unfold gmem
  rw [getD_take_drop _ _ _ _ (by rw [chgN_length]; exact hk), if_neg (by omega)]
theorem nat_ext {l m : List Nat} (hlen : l.length = m.length) (h : ∀ i, i < l.length → l.getD i 0 = m.getD i 0) : l = m := by
  apply List.ext_getElem hlen
  intro i h1 h2
  have := h i h1
  simpa [List.getD_eq_getElem?_getD, List.getElem?_eq_getElem h1, List.getElem?_eq_getElem h2] using this
theorem or_clear {x j : Nat} (hx : x < 256) (hj : j < 8) : (x &&& (255 - 2 ^ j)) ||| 2 ^ j = x ||| 2 ^ j := by
  have hp := pow_lt8 hj
  apply byte_ext (or_lt8 (and_lt8 hx _) hp) (or_lt8 hx hp)
  intro k hk
  rw [Nat.testBit_or, Nat.testBit_or, Nat.testBit_and, tb_not8 _ _ hp hk, tb_pow]
  by_cases e : j = k <;> simp [e]
theorem chg_other (d : List Nat) (f : Nat) (l : List Bool) (k i : Nat) (hk : (f + k) / 8 < d.length) (hi : i ≠ (f + k) / 8) : (chgN d f l (k + 1)).getD i 0 = (chgN d f l k).getD i 0 := by
  rw [chgN, setBit, getD_set _ _ _ _ (by rw [chgN_length]; exact hk), if_neg hi]
theorem chg_byte {d : List Nat} (h : Small d) (f : Nat) (l : List Bool) (k : Nat) (hk : (f + k) / 8 < d.length) :
    (chgN d f l (k + 1)).getD ((f + k) / 8) 0 = if l.getD k false then (chgN d f l k).getD ((f + k) / 8) 0 ||| 2 ^ ((f + k) % 8) else (chgN d f l k).getD ((f + k) / 8) 0 &&& (255 - 2 ^ ((f + k) % 8)) := by
  rw [chgN, setBit, getD_set _ _ _ _ (by rw [chgN_length]; exact hk), if_pos rfl]
  split
  · exact or_clear ((chgN_small h f l k).get _) (by omega)
  · rfl
theorem chg_above (d : List Nat) (f : Nat) (l : List Bool) (k q : Nat) (hk : f + k ≤ 8 * d.length) (hq : f + k ≤ 8 * q) : (chgN d f l k).getD q 0 = d.getD q 0 := by
  induction k with
  | zero => rfl
  | succ k ih => rw [chg_other d f l k q (by omega) (by omega), ih (by omega) (by omega)]
theorem gmem_in (d : List Nat) (f : Nat) (l : List Bool) (k : Nat) (hk : f + k < 8 * d.length) (hm : (f + k) % 8 ≠ 7) : gmem d f l (k + 1) = gmem d f l k := by
  have a1 : (f + (k + 1)) / 8 = (f + k) / 8 := by omega
  apply nat_ext (by rw [gmem_length _ _ _ _ (by omega), gmem_length _ _ _ _ (by omega)])
  intro i hi
  unfold gmem
  rw [a1, getD_take_drop _ _ _ _ (by rw [chgN_length]; omega), getD_take_drop _ _ _ _ (by rw [chgN_length]; omega)]
  split
  · exact chg_other d f l k i (by omega) (by omega)
  · rfl
theorem gmem_out (d : List Nat) (f : Nat) (l : List Bool) (k : Nat) (hk : f + k < 8 * d.length) (hm : (f + k) % 8 = 7) : gmem d f l (k + 1) = (gmem d f l k).set ((f + k) / 8) ((chgN d f l (k + 1)).getD ((f + k) / 8) 0) := by
  have a1 : (f + (k + 1)) / 8 = (f + k) / 8 + 1 := by omega
  have hl := gmem_length d f l k (by omega)
  apply nat_ext (by rw [List.length_set, gmem_length _ _ _ _ (by omega), hl])
  intro i hi
  rw [getD_set _ _ _ _ (by rw [hl]; omega)]
  unfold gmem
  rw [a1, getD_take_drop _ _ _ _ (by rw [chgN_length]; omega), getD_take_drop _ _ _ _ (by rw [chgN_length]; omega)]
  by_cases e : i = (f + k) / 8
  · rw [if_pos (by omega), if_pos e, e]
  · rw [if_neg e]
    by_cases c : i < (f + k) / 8
    · rw [if_pos (by omega), if_pos c]
      exact chg_other d f l k i (by omega) e
    · rw [if_neg (by omega), if_neg c]
theorem gmem_zero (d : List Nat) (f : Nat) (l : List Bool) : gmem d f l 0 = d := by unfold gmem; exact List.take_append_drop _ _
theorem gmem_full (d : List Nat) (f : Nat) (l : List Bool) (k : Nat) (hk : f + k ≤ 8 * d.length) (hm : (f + k) % 8 = 0) : gmem d f l k = chgN d f l k := by
  apply nat_ext (by rw [gmem_length _ _ _ _ (by omega), chgN_length])
  intro i hi
  unfold gmem
  rw [getD_take_drop _ _ _ _ (by rw [chgN_length]; omega)]
  split
  · rfl
  · exact (chg_above d f l k i hk (by omega)).symm
theorem gmem_part (d : List Nat) (f : Nat) (l : List Bool) (k : Nat) (hk : f + k ≤ 8 * d.length) (hm : (f + k) % 8 ≠ 0) : (gmem d f l k).set ((f + k) / 8) ((chgN d f l k).getD ((f + k) / 8) 0) = chgN d f l k := by
  have hl := gmem_length d f l k (by omega)
  apply nat_ext (by rw [List.length_set, hl, chgN_length])
  intro i hi
  rw [getD_set _ _ _ _ (by rw [hl]; omega)]
  split
  · rename_i e; rw [e]
  · unfold gmem
    rw [getD_take_drop _ _ _ _ (by rw [chgN_length]; omega)]
    split
    · rfl
    · exact (chg_above d f l k i hk (by omega)).symm
/-- the bits of a number, as a list. -/
def bitsOf (x n : Nat) : List Bool := (List.range n).map fun j => x.testBit j
theorem bitsOf_length (x n : Nat) : (bitsOf x n).length = n := by simp [bitsOf]
theorem bitsOf_get (x n j : Nat) (h : j < n) : (bitsOf x n).getD j false = x.testBit j := by simp [bitsOf, List.getD_eq_getElem?_getD, h]
/-- some bits behind others. -/
theorem chg_append {d : List Nat} (h : Small d) (f : Nat) (l r : List Bool) (k n : Nat) (hk : f + k + n ≤ 8 * d.length) (hr : ∀ j, j < n → r.getD j false = l.getD (k + j) false) : chgN (chgN d f l k) (f + k) r n = chgN d f l (k + n) := by
  have h1 := chgN_small h f l k
  apply bytes_ext (by simp [chgN_length]) (chgN_small h1 _ _ _) (chgN_small h _ _ _)
  intro i hi
  rw [bitAt_chgN h1 _ _ _ (by rw [chgN_length]; omega), bitAt_chgN h _ _ _ (by omega), bitAt_chgN h _ _ _ (by omega)]
  by_cases c : f + k ≤ i ∧ i < f + k + n
  · rw [if_pos c, if_pos (by omega), hr _ (by omega)]
    congr 1; omega
  · rw [if_neg c]
    by_cases c2 : f ≤ i ∧ i < f + k
    · rw [if_pos c2, if_pos (by omega)]
    · rw [if_neg c2, if_neg (by omega)]
end Go.Proofs.YtcjjajbpjfamfaaDoor
