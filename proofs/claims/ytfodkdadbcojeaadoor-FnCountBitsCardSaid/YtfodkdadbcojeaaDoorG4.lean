/- Bits that a function gives: plain facts. -/
import Derived.Test.YtfodkdadbcojeaaDoorL3
set_option linter.unusedVariables false
set_option linter.unusedSimpArgs false
namespace Go.Proofs.YtfodkdadbcojeaaDoor
open Go.RowKit
/-- memory and the current byte after k bits from a place on -/
def gmem (d : List Nat) (f : Nat) (l : List Bool) (k : Nat) : List Nat := (chgN d f l k).take ((f + k) / 8) ++ d.drop ((f + k) / 8)
def gcur (d : List Nat) (f : Nat) (l : List Bool) (k : Nat) : Nat := (chgN d f l k).getD ((f + k) / 8) 0 % 2 ^ ((f + k) % 8)
theorem gcur_lt (d : List Nat) (f : Nat) (l : List Bool) (k : Nat) : gcur d f l k < 2 ^ ((f + k) % 8) := Nat.mod_lt _ (Nat.two_pow_pos _)
theorem gcur_lt8 (d : List Nat) (f : Nat) (l : List Bool) (k : Nat) : gcur d f l k < 256 := Nat.lt_trans (gcur_lt d f l k) (pow_lt8 (by omega))
theorem gmem_length (d : List Nat) (f : Nat) (l : List Bool) (k : Nat) (h : (f + k) / 8 ≤ d.length) : (gmem d f l k).length = d.length := by
  unfold gmem
  rw [List.length_append, List.length_take, List.length_drop, chgN_length]; omega
theorem gmem_small {d : List Nat} (h : Small d) (f : Nat) (l : List Bool) (k : Nat) : Small (gmem d f l k) := by
  intro x hx
  unfold gmem at hx
  rcases List.mem_append.1 hx with h1 | h1
  · exact chgN_small h f l k x (List.mem_of_mem_take h1)
  · exact h x (List.mem_of_mem_drop h1)
theorem getD_take_drop (a b : List Nat) (m i : Nat) (hm : m ≤ a.length) : (a.take m ++ b.drop m).getD i 0 = if i < m then a.getD i 0 else b.getD i 0 := by
  simp only [List.getD_eq_getElem?_getD]
  by_cases h : i < m
  · rw [if_pos h, List.getElem?_append_left (by rw [List.length_take]; omega), List.getElem?_take_of_lt h]
  · rw [if_neg h, List.getElem?_append_right (by rw [List.length_take]; omega), List.getElem?_drop, List.length_take]
    congr 2; omega
theorem bitAt_gmem (d : List Nat) (f : Nat) (l : List Bool) (k i : Nat) (hk : (f + k) / 8 ≤ d.length) : bitAt (gmem d f l k) i = if i / 8 < (f + k) / 8 then bitAt (chgN d f l k) i else bitAt d i := by
  unfold bitAt gmem
  rw [getD_take_drop _ _ _ _ (by rw [chgN_length]; exact hk)]
  split <;> rfl
theorem gmem_get (d : List Nat) (f : Nat) (l : List Bool) (k : Nat) (hk : (f + k) / 8 ≤ d.length) : (gmem d f l k).getD ((f + k) / 8) 0 = d.getD ((f + k) / 8) 0 := by
  unfold gmem
  rw [getD_take_drop _ _ _ _ (by rw [chgN_length]; exact hk), if_neg (by omega)]
theorem tb_gcur {d : List Nat} (h : Small d) (f : Nat) (l : List Bool) (k : Nat) (hk : f + k ≤ 8 * d.length) (j : Nat) : (gcur d f l k).testBit j = (decide (j < (f + k) % 8) && bitAt (chgN d f l k) (8 * ((f + k) / 8) + j)) := by
  unfold gcur
  rw [Nat.testBit_mod_two_pow]
  by_cases hj : j < (f + k) % 8
  · unfold bitAt
    have e1 : (8 * ((f + k) / 8) + j) / 8 = (f + k) / 8 := by omega
    have e2 : (8 * ((f + k) / 8) + j) % 8 = j := by omega
    rw [e1, e2]
  · simp [hj]
/-- the byte after one bit more -/
def gnext (d : List Nat) (f : Nat) (l : List Bool) (k : Nat) : Nat := if l.getD k false then gcur d f l k ||| 2 ^ ((f + k) % 8) else gcur d f l k
theorem gnext_lt8 (d : List Nat) (f : Nat) (l : List Bool) (k : Nat) : gnext d f l k < 256 := by
  unfold gnext
  split
  · exact or_lt8 (gcur_lt8 d f l k) (pow_lt8 (by omega))
  · exact gcur_lt8 d f l k
theorem tb_gnext {d : List Nat} (h : Small d) (f : Nat) (l : List Bool) (k : Nat) (hk : f + k < 8 * d.length) (j : Nat) (hj : j < 8) : (gnext d f l k).testBit j = (decide (j ≤ (f + k) % 8) && bitAt (chgN d f l (k + 1)) (8 * ((f + k) / 8) + j)) := by
  have h1 : (gnext d f l k).testBit j = ((gcur d f l k).testBit j || (l.getD k false && decide ((f + k) % 8 = j))) := by
    unfold gnext
    cases hb : l.getD k false
    · simp
    · simp [Nat.testBit_or, tb_pow]
  rw [h1, tb_gcur h f l k (by omega), bitAt_chgN h f l (k + 1) (by omega), bitAt_chgN h f l k (by omega)]
  by_cases e : (f + k) % 8 = j
  · subst e
    have a1 : 8 * ((f + k) / 8) + (f + k) % 8 = f + k := by omega
    rw [a1, if_pos (show f ≤ f + k ∧ f + k < f + (k + 1) by omega)]
    have : f + k - f = k := by omega
    rw [this]
    simp
  · by_cases hlt : j < (f + k) % 8
    · have e2 : j ≤ (f + k) % 8 := by omega
      simp only [hlt, e2, e, decide_true, decide_false, Bool.true_and, Bool.and_false, Bool.or_false]
      by_cases c : f ≤ 8 * ((f + k) / 8) + j ∧ 8 * ((f + k) / 8) + j < f + k
      · rw [if_pos c, if_pos (by omega)]
      · rw [if_neg c, if_neg (by omega)]
    · have e2 : ¬ j ≤ (f + k) % 8 := by omega
      simp [hlt, e2, e]
/-- within the byte: one bit more -/
theorem gstep_in {d : List Nat} (h : Small d) (f : Nat) (l : List Bool) (k : Nat) (hk : f + k < 8 * d.length) (hm : (f + k) % 8 ≠ 7) : gnext d f l k = gcur d f l (k + 1) ∧ gmem d f l (k + 1) = gmem d f l k := by
  have a1 : (f + (k + 1)) / 8 = (f + k) / 8 := by omega
  constructor
  · apply byte_ext (gnext_lt8 _ _ _ _) (gcur_lt8 _ _ _ _)
    intro j hj
    rw [tb_gnext h f l k hk j hj, tb_gcur h f l (k + 1) (by omega), a1]
    congr 1
    rw [decide_eq_decide]; omega
  · apply bytes_ext (by rw [gmem_length _ _ _ _ (by omega), gmem_length _ _ _ _ (by omega)]) (gmem_small h _ _ _) (gmem_small h _ _ _)
    intro i hi
    rw [bitAt_gmem _ _ _ _ _ (by omega), bitAt_gmem _ _ _ _ _ (by omega), a1]
    by_cases c : i / 8 < (f + k) / 8
    · rw [if_pos c, if_pos c, bitAt_chgN h f l (k + 1) (by omega), bitAt_chgN h f l k (by omega)]
      by_cases c2 : f ≤ i ∧ i < f + k
      · rw [if_pos c2, if_pos (by omega)]
      · rw [if_neg c2, if_neg (by omega)]
    · rw [if_neg c, if_neg c]
/-- the byte is full -/
theorem gstep_out {d : List Nat} (h : Small d) (f : Nat) (l : List Bool) (k : Nat) (hk : f + k < 8 * d.length) (hm : (f + k) % 8 = 7) : gcur d f l (k + 1) = 0 ∧ gmem d f l (k + 1) = (gmem d f l k).set ((f + k) / 8) (gnext d f l k) := by
  have a0 : (f + (k + 1)) % 8 = 0 := by omega
  have a1 : (f + (k + 1)) / 8 = (f + k) / 8 + 1 := by omega
  constructor
  · unfold gcur; rw [a0]; simp [Nat.mod_one]
  · have hl := gmem_length d f l k (by omega)
    apply bytes_ext (by rw [List.length_set, gmem_length _ _ _ _ (by omega), hl]) (gmem_small h _ _ _) ((gmem_small h _ _ _).set _ _ (gnext_lt8 _ _ _ _))
    intro i hi
    rw [bitAt_gmem _ _ _ _ _ (by omega), bitAt_set _ _ _ _ (by rw [hl]; omega), bitAt_gmem _ _ _ _ _ (by omega), a1]
    by_cases c : i / 8 = (f + k) / 8
    · rw [if_pos (by omega), if_pos c, tb_gnext h f l k hk _ (by omega)]
      have : i % 8 ≤ (f + k) % 8 := by omega
      have e : 8 * ((f + k) / 8) + i % 8 = i := by omega
      simp only [this, decide_true, Bool.true_and, e]
    · rw [if_neg c]
      by_cases c1 : i / 8 < (f + k) / 8
      · rw [if_pos (by omega), if_pos c1, bitAt_chgN h f l (k + 1) (by omega), bitAt_chgN h f l k (by omega)]
        by_cases c2 : f ≤ i ∧ i < f + k
        · rw [if_pos c2, if_pos (by omega)]
        · rw [if_neg c2, if_neg (by omega)]
      · rw [if_neg (by omega), if_neg c1]
theorem gstart {d : List Nat} (h : Small d) (f : Nat) (l : List Bool) (hf : f / 8 ≤ d.length) : gmem d f l 0 = d ∧ gcur d f l 0 = d.getD (f / 8) 0 % 2 ^ (f % 8) := by
  constructor
  · unfold gmem; exact List.take_append_drop _ _
  · rfl
/-- what stands there in the end -/
def gfin (d : List Nat) (f : Nat) (l : List Bool) : List Nat := if (f + l.length) % 8 = 0 then gmem d f l l.length else (gmem d f l l.length).set ((f + l.length) / 8) (gcur d f l l.length)
theorem gfin_length (d : List Nat) (f : Nat) (l : List Bool) (h : f + l.length ≤ 8 * d.length) : (gfin d f l).length = d.length := by
  unfold gfin
  split
  · exact gmem_length _ _ _ _ (by omega)
  · rw [List.length_set]; exact gmem_length _ _ _ _ (by omega)
theorem gfin_small {d : List Nat} (h : Small d) (f : Nat) (l : List Bool) : Small (gfin d f l) := by
  unfold gfin
  split
  · exact gmem_small h _ _ _
  · exact (gmem_small h _ _ _).set _ _ (gcur_lt8 _ _ _ _)
/-- all bits before the end, and from the next whole byte on, are right -/
theorem bitAt_gfin {d : List Nat} (h : Small d) (f : Nat) (l : List Bool) (hk : f + l.length ≤ 8 * d.length) (i : Nat) (hi : i < f + l.length ∨ (f + l.length + 7) / 8 * 8 ≤ i) : bitAt (gfin d f l) i = bitAt (chgN d f l l.length) i := by
  have hin : ∀ i, ¬ i / 8 < (f + l.length) / 8 → ¬ (f ≤ i ∧ i < f + l.length) → bitAt d i = bitAt (chgN d f l l.length) i := fun i h1 h2 => by rw [bitAt_chgN h f l _ hk, if_neg h2]
  unfold gfin
  split
  · rename_i e
    rw [bitAt_gmem _ _ _ _ _ (by omega)]
    split
    · rfl
    · exact hin i (by assumption) (by omega)
  · rename_i e
    rw [bitAt_set _ _ _ _ (by rw [gmem_length _ _ _ _ (by omega)]; omega), bitAt_gmem _ _ _ _ _ (by omega)]
    split
    · rename_i c
      rw [tb_gcur h f l _ hk]
      have h3 : i % 8 < (f + l.length) % 8 := by omega
      have e2 : 8 * ((f + l.length) / 8) + i % 8 = i := by omega
      simp only [h3, decide_true, Bool.true_and, e2]
    · split
      · rfl
      · exact hin i (by assumption) (by omega)
end Go.Proofs.YtfodkdadbcojeaaDoor
